/-
  DERIVED. A part of the proof of laws.FnIsoPaths (for every input the law returns true and each argument reads as before; the listed variables read as listed when the call begins). It holds:
  · Walks: isoAwake: an image of one file is read.
  · Walks: isoAwake, FnIsoPaths.
-/
import Derived.Test.YtilgpaeeleknhaaGreatDoorIq41
import Derived.Test.YtilgpaeeleknhaaGreatDoorIq46
import Derived.Test.YtilgpaeeleknhaaGreatDoorIq42
import Derived.Test.YtilgpaeeleknhaaGreatDoorIq47
section
namespace Go.Proofs.YtilgpaeeleknhaaGreatDoor
open Go Go.RowKit
set_option linter.unusedSimpArgs false
set_option linter.unusedVariables false
theorem apartD_of {ms : List Node} {fs : List File} (hF : Fam false ms fs) (hA : ApartF fs) : ApartD ms := by
  have hl := hF.len
  intro i j hi hj h0 h1 d1 d2 e
  have f1 := hF.file (i - 1) (by omega)
  have f2 := hF.file (j - 1) (by omega)
  rw [show i - 1 + 1 = i by omega, List.getElem?_eq_getElem (by omega)] at f1
  rw [show j - 1 + 1 = j by omega, List.getElem?_eq_getElem (by omega)] at f2
  have f1 := Option.some.inj f1
  have f2 := Option.some.inj f2
  have := hA (i - 1) (j - 1) (by omega) (by omega) (by rw [f1]; exact d1) (by rw [f2]; exact d2) (by rw [f1, f2]; exact e)
  omega
theorem tr_of {fs : List File} {ms : List Node} {ds : List Nat} {img vol : List UInt8} {next pt : Nat} (h : Iso fs ms ds img vol next pt) (hG : Good fs) (hA : ApartF fs) (hl : ∀ f ∈ fs, f.p.length ≤ 900) : Tr fs ms ds img :=
  ⟨hG, h.fam, h.num, apartD_of h.fam hA, h.disk, h.kid, hl⟩
/-- The one file. -/
def fA : File := ⟨⟨#[65, 46, 84, 88, 84]⟩, false, ⟨#[120]⟩, ⟨#[]⟩, 0, 0, 0, 0⟩
theorem fA_els : Lib.Pa.els fA.p = [[65, 46, 84, 88, 84]] := els_one _ (by decide)
theorem fA_cut : cutLast fA.p = ([], [65, 46, 84, 88, 84]) := by decide
theorem fA_name : PlainName [65, 46, 84, 88, 84] := ⟨by decide, by decide, by decide, by decide⟩
theorem good_one : Good [fA] := by
  refine ⟨by decide, ?_, ?_, ?_⟩
  · intro f hf s hs
    rw [List.mem_singleton] at hf; subst hf
    rw [fA_els, List.mem_singleton] at hs; subst hs
    exact fA_name.plain
  · intro k hk
    have : k = 0 := by simpa using hk
    subst this
    show (cutLast fA.p).2 ≠ [] ∧ ((cutLast fA.p).1 = [] ∨ _)
    rw [fA_cut]
    exact ⟨by simp, .inl rfl⟩
  · intro i j hi hj _
    have : i = 0 := by simpa using hi
    have : j = 0 := by simpa using hj
    omega
theorem apart_one : ApartF [fA] := by
  intro i j hi hj _ _ _
  have : i = 0 := by simpa using hi
  have : j = 0 := by simpa using hj
  omega
section
variable {ms : List Node} {ds : List Nat} {img vol : List UInt8} {next pt : Nat}
theorem one_node (h : Iso [fA] ms ds img vol next pt) : ms.length = 2 ∧ (nodeAt ms 1).f = fA ∧ kidsOf ms 0 = [1] ∧ dirOf ms 1 = false ∧ nam ms 1 = [65, 46, 84, 88, 84] := by
  have hl : ms.length = 2 := h.fam.len
  have hf : (nodeAt ms 1).f = fA := by
    have := h.fam.file 0 (by decide)
    exact (Option.some.inj this).symm
  have hp := (h.fam.par 0 (by decide)).1
  have hp0 : parOf ms 1 = 0 := by have : parOf ms (0 + 1) < 0 + 1 := hp; simpa using this
  refine ⟨hl, hf, ?_, by show (nodeAt ms 1).f.dir = false; rw [hf]; rfl, by unfold nam; rw [hf, fA_cut]⟩
  have hm : ∀ k, k ∈ kidsOf ms 0 ↔ k = 1 := by
    intro k
    rw [h.fam.kids 0 (by omega)]
    constructor
    · rintro ⟨h1, h2, _⟩; omega
    · rintro rfl; exact ⟨by decide, by omega, hp0⟩
  have hn := h.nod 0
  cases hk : kidsOf ms 0 with
  | nil => have := (hm 1).2 rfl; rw [hk] at this; cases this
  | cons a l =>
    have ha := (hm a).1 (by rw [hk]; simp)
    cases l with
    | nil => rw [ha]
    | cons b l =>
      have hb := (hm b).1 (by rw [hk]; simp)
      rw [hk, ha, hb] at hn
      simp at hn
theorem walk_one (h : Iso [fA] ms ds img vol next pt) (E : Addr) (F M D PT RD Bc : Nat) (w : World) (hW : FsW w F M D PT RD img ms ds) (hBc : w.cell? ⟨Bc, 0, none⟩ = some (PB F)) (hT : Tabs w) (hG : w.cell? ⟨0, 0, none⟩ = some (EofV E)) :
    Calls Tryz.prog 71 #[RoadsV F Bc, .string ⟨#[46]⟩, .slice none 0 0] w fun e w' => ∃ g c, e = .returned (.tuple #[.slice (some ⟨g, 0, none⟩) 1 c, .bool true]) ∧ w'.cell? ⟨g, 14, none⟩ = some (.string ⟨#[120]⟩) ∧ Below w.heap.size w w' := by
  have T : Tr [fA] ms ds img := tr_of h good_one apart_one (by intro f hf; rw [List.mem_singleton] at hf; subst hf; decide)
  obtain ⟨hl, hf, hk, hd, hnam⟩ := one_node h
  have hi : 1 < ms.length := by omega
  have hk1 : 1 ∈ kidsOf ms 0 := by rw [hk]; simp
  have ho := T.disk.ok 0 T.h0 T.root (kidR ms 1) (by rw [recsOf_eq]; simp only [List.mem_cons, List.mem_map]; exact .inr (.inr ⟨1, hk1, rfl⟩))
  have htold : (kidR ms 1).told = fA.path := by rw [T.told 0 1 T.h0 hk1, hnam]; rfl
  have hpts : pts ms 1 = [] ++ [[65, 46, 84, 88, 84]] := by unfold pts; rw [if_neg (by decide), hf, fA_els]; rfl
  have hgp : GoodPart [65, 46, 84, 88, 84] := fA_name.plain.good
  have hpath : SV (nodeAt ms 1).f.p = .string fA.path := by rw [hf]
  have hpth : SV (pth ms 1) = .string fA.path := by
    unfold pth; rw [if_neg (by decide), hpts]; show SV (joinP [[65, 46, 84, 88, 84]]) = _; rw [joinP_one]; rfl
  obtain ⟨hz1, hz2, hz3⟩ := h.data 1 hi hd
  rw [hf] at hz1 hz3
  have hz1 : (nodeAt ms 1).size = 1 := hz1
  rw [hz1] at hz2 hz3
  have h63 : ∀ W, Below w.heap.size w W → Calls Tryz.prog 63 #[PB F, SV [46]] W fun e w' => ListR W w' F [kidR ms 1] e := fun W hb => by
    have := T.list F M D PT RD 0 W T.h0 T.root (hW.later hb) (hT.later hb)
    rw [T.tell 0 T.h0, hk] at this
    exact this
  have h64 : ∀ W, Below w.heap.size w W → Calls Tryz.prog 64 #[PB F, .string fA.path] W fun e w' => ∃ b, e = .returned (.tuple #[IB b, .nilIface]) ∧ EntAt w' b (kidR ms 1) (PB F) ∧ Below W.heap.size W w' := fun W hb => by
    have := T.statHit F M D PT RD 1 W hi (by decide) (hW.later hb) (hT.later hb)
    rw [hpath] at this
    exact this
  have hself : (selfR ms 0).self = true := rfl
  have hpar : (parR ms 0).par = true := rfl
  obtain ⟨_, hks, hkp⟩ := kid_rname T.kid T.h0 hk1
  have hfind : (recsOf ms 0).find? (openP [65, 46, 84, 88, 84]) = some (kidR ms 1) := by
    rw [recsOf_eq, hk]
    have e1 : openP [65, 46, 84, 88, 84] (selfR ms 0) = false := by unfold openP; rw [hself]; rfl
    have e2 : openP [65, 46, 84, 88, 84] (parR ms 0) = false := by unfold openP; rw [hpar, Bool.or_true]; rfl
    have e3 : openP [65, 46, 84, 88, 84] (kidR ms 1) = true := by unfold openP; rw [hks, hkp, htold]; decide
    rw [List.find?_cons, e1, List.find?_cons, e2, List.map_cons, List.find?_cons, e3]
  have hnm : ∀ r ∈ recsOf ms 0, r.name.size ≤ 1000 := by
    intro r hr
    have ho := T.disk.ok 0 T.h0 T.root r hr
    unfold Rec.name
    split
    · decide
    · rw [size_ofL]; have := ho.id2; omega
  have h66 : ∀ W, Below w.heap.size w W → Calls Tryz.prog 66 #[PB F, .string fA.path] W fun e w' => ∃ X b, e = .returned (.tuple #[.iface 113 (PB X), .nilIface]) ∧ w'.heap[X]? = some (.cells (fileC b 0 false).toArray 118) ∧ EntAt w' b (kidR ms 1) (PB F) ∧ W.heap.size ≤ X ∧ Below W.heap.size W w' := fun W hb => by
    have hWW := hW.later hb
    refine open_any F fA.path (ofL [46]) [65, 46, 84, 88, 84] (recsOf ms 0) (kidR ms 1) W hWW.p hWW.work (by decide) (T.disk.cnt 0 T.h0) hnm hfind ?_ ?_ (fun V => ?_) (fun V => ?_) (fun V hv => ?_)
    · show (nodeAt ms 1).f.dir = false; exact hd
    · have := T.vp 1 W hi (hT.later hb)
      rw [hpth] at this
      exact this
    · have h1 := Tryz.path_Dir_rules fA.path V (by decide)
      have h2 := dir_join [] [65, 46, 84, 88, 84] (by simp) hgp
      rw [if_pos rfl] at h2
      rw [show fA.path.data.toList = joinP ([] ++ [[65, 46, 84, 88, 84]]) by rw [List.nil_append, joinP_one]; rfl, h2] at h1
      exact h1
    · have h1 := Tryz.path_Base fA.path V (by decide)
      have h2 := base_join [] [65, 46, 84, 88, 84] hgp
      rw [show fA.path.data.toList = joinP ([] ++ [[65, 46, 84, 88, 84]]) by rw [List.nil_append, joinP_one]; rfl, h2] at h1
      exact h1
    · have hV := hWW.later hv
      exact readDirectory_ok F _ _ V hV.jol (readPVD_pt F M D PT RD 0 img ms ds _ V hV T.disk T.h0 T.root (fun U hu => ptLoc_dot PT ms ds U (hV.later hu).ptat T.num.head.1 T.num.head.2 (T.x32 0)))
  have hgl : 0 < w.heap.size := cell_lt hG
  refine walk1_any F Bc (kidR ms 1) fA.path ⟨#[120]⟩ w hW.p (hnm _ (by rw [recsOf_eq, hk]; simp)) ho.s (by show (nodeAt ms 1).f.dir = false; exact hd) htold h63 h64 (fun W hb => ?_)
  have hWW := hW.later hb
  have := clo65_any F M D PT RD Bc 1 (nodeAt ms 1).extent E (kidR ms 1) fA.path img ms ds W hWW ((hb.cell (p := ⟨Bc, 0, none⟩) (cell_lt hBc)).trans hBc) hz1 rfl (by decide) (by decide) (T.disk.ext 1) hz2 T.disk.len ((hb.cell (p := ⟨0, 0, none⟩) hgl).trans hG) (fun V hv => h66 V (hb.trans (hv.mono hb.size)))
  rw [hz3] at this
  exact this
end
end Go.Proofs.YtilgpaeeleknhaaGreatDoor
end

section
namespace Go.Proofs.YtilgpaeeleknhaaGreatDoor
open Go Go.RowKit
set_option linter.unusedSimpArgs false
set_option linter.unusedVariables false
theorem ahead_one : Ahead [fA] := good_one.ahead
set_option maxRecDepth 1000000 in
set_option maxHeartbeats 4000000 in
theorem isoAwake_any (E : Addr) (w : World) (hT : Tabs w) (hG : w.cell? ⟨0, 0, none⟩ = some (EofV E)) : Calls Tryz.prog 9 #[] w fun e w' => e = .returned (.bool true) ∧ Below w.heap.size w w' := by
  obtain ⟨ns, hns⟩ := addFiles_made (rock := false) ahead_one
  have hFR : FilesR (w.alloc (.cells fA.cells.toArray 37)) (w.alloc (.cells fA.cells.toArray 37)).heap.size (some ⟨w.heap.size, 0, none⟩) [fA] := by
    intro i hi
    have : i = 0 := by simpa using hi
    subst this
    exact ⟨w.heap.size, 0, rfl, by simp, rangeAt_alloc w fA.cells 37⟩
  have hok : ∀ f ∈ [fA], FileOk f := by
    intro f hf; rw [List.mem_singleton] at hf; subst hf
    exact ⟨by decide, by decide, by decide, by decide⟩
  have hIM := isoImage_any 1 (some ⟨w.heap.size, 0, none⟩) [fA] ns ⟨#[86]⟩ (w.alloc (.cells fA.cells.toArray 37)) (by decide) (by decide) hFR hok (by decide) hns
  have hW1 : Below w.heap.size w (w.alloc (.cells fA.cells.toArray 37)) := (Below.refl _ _).alloc (Nat.le_refl _) _
  have h12 : ∀ (O next : Nat) (ks : List Node) (ds : List Nat) (img : List UInt8) (W : World), Below w.heap.size w W → Own W (w.alloc (.cells fA.cells.toArray 37)).heap.size (.slice (some ⟨O, 0, none⟩) (next * 2048) (next * 2048)) img → Laid ns [86] ks ds next img →
      Calls Tryz.prog 12 #[.slice (some ⟨O, 0, none⟩) (next * 2048 : Nat) (next * 2048), .int .i64 2048] W fun e w' => ∃ lab g c, e = .returned (.tuple #[.string lab, .slice (some ⟨g, 0, none⟩) 1 c, .bool true, .bool true]) ∧ w'.cell? ⟨g, 14, none⟩ = some (.string ⟨#[120]⟩) ∧ Below W.heap.size W w' := by
    intro O next ks ds img W hb hO hL
    obtain ⟨pt, hiso⟩ := iso_of good_one hok hns (by decide) hL
    have hg : 0 < w.heap.size := cell_lt hG
    exact isoOpen1_any O (next * 2048) (next * 2048) pt 18 ⟨#[120]⟩ img [86] (selfR ks 0) ks ds W hO.rd hiso.len hiso.isoD (fun F M D PT RD Bc V hv hFs hBc => walk_one hiso E F M D PT RD Bc V hFs hBc (hT.later (hb.trans (hv.mono hb.size))) (((hb.trans (hv.mono hb.size)).cell (p := ⟨0, 0, none⟩) hg).trans hG))
  have HIM := Lib.hid hIM; have H12 := Lib.hid h12; have HW1 := Lib.hid hW1
  clear hIM h12 hFR hok hns hW1 hT hG
  go_enter Tryz.func9, Tryz.ntmps9
  go_upto_region 3 with (first
    | (go_at_call 12; go_must (refine (H12.out O next ks ds img w2 hbw2 HO2.out HL.out).mono ?_); rintro e w3 ⟨lab, g, c, rfl, hd, hb3⟩; have hbw3 : Below w.heap.size w w3 := hbw2.trans (hb3.mono hbw2.size))
    | (go_at_call 11; go_must (refine HIM.out.mono ?_); rintro e w2 ⟨O, ks, ds, next, img, rfl, hO, hb2, hL⟩; have HO2 := Lib.hid hO; have HL := Lib.hid hL; have hbw2 : Below w.heap.size w w2 := HW1.out.trans (hb2.mono HW1.out.size); clear hO hL hb2))
  go_wp2
  go_ret
  exact ⟨rfl, hbw3⟩
theorem wpList_loadFileG {ops : Array Oper} {rest : List Oper} {o : Oper} {a : Act} {w : World} {Q : Exit → Act → World → Prop} (hw : Region.wanted o (yielded ops a.tmps) = true) (x : Operand) (ho : o.op = .load 37 x)
    {b off : Nat} {f : File} (hx : a.eval x = .pointer (some ⟨b, off, none⟩)) (h : w.rangeAt b off f.cells)
    (hK : wpList Tryz.prog ops Q rest (a.put o.dst (.agg #[.string f.path, .bool f.dir, .string f.data, .string f.target, .int .u32 f.perm, .int .u32 f.uid, .int .u32 f.gid, .int .i64 f.time])) w) :
    wpList Tryz.prog ops Q (o :: rest) a w := by
  obtain ⟨d, hd, hr⟩ := isRow_of under37'
  exact wpList_step fun _ hK' => by rw [if_pos hw]; exact wp_load_mid 37 x ho b off hx f.cells d h hd hr info37 (hK' _ _ hK)
theorem treeG_target {l : List File} (h : TreeG true l) : ∀ f ∈ l, f.target = ⟨#[]⟩ := by
  intro f hf
  by_cases h0 : f.target.size = 0
  · exact ByteArray_empty.1 h0
  · exact absurd (h.links f hf h0).2.1 (by decide)
set_option maxRecDepth 1000000 in
set_option maxHeartbeats 8000000 in
theorem fnPaths_any (cap : Nat) (E : Addr) (which : Nat) (A : Option Addr) (fs : List File) (w : World) (hA : FilesR w w.heap.size A fs) (hl : fs.length ≤ 4611686018427387904) (hcap : fs.length ≤ cap) (htm : ∀ f ∈ fs, -9223372036854775808 ≤ f.time ∧ f.time ≤ 9223372036854775807) (hwh : which < 256) (hT : Tabs w) (hG : w.cell? ⟨0, 0, none⟩ = some (EofV E)) :
    Calls Tryz.prog 5 #[.slice A fs.length cap, .int .u8 which] w fun e w' => e = .returned (.bool true) ∧ Below w.heap.size w w' := by
  have h9 : ∀ W, Below w.heap.size w W → Calls Tryz.prog 9 #[] W fun e w' => e = .returned (.bool true) ∧ Below W.heap.size W w' := fun W hb => isoAwake_any E W (hT.later hb) ((hb.cell (p := ⟨0, 0, none⟩) (cell_lt hG)).trans hG)
  have hAW : ∀ W, Below w.heap.size w W → FilesR W W.heap.size A fs := fun W hb => (hA.keep hb (Nat.le_refl _)).up hb.size
  have H6 := Lib.hid (zzFits3_any cap A fs w hA hl hcap)
  have H9 := Lib.hid h9; have HAW := Lib.hid hAW; have HT := Lib.hid hT; have HG := Lib.hid hG; have HTM := Lib.hid htm
  clear h9 hAW hA hT hG htm
  go_enter Tryz.func5, Tryz.ntmps5
  go_upto_region 3 with (first
    | (go_at_call 6; go_must (refine H6.out.mono ?_); rintro e w2 ⟨⟨r6, rfl, hr6⟩, hb2⟩; have HR6 := Lib.hid hr6; clear hr6))
  · go_ret
    exact ⟨rfl, hb2⟩
  · have h6 : r6 = true := by simpa using ‹(!r6) = false›
    obtain ⟨hsz, hfit⟩ := HR6.out h6
    have hpl : ∀ f ∈ fs, f.path.size ≤ 2147483647 := fun f hf => (hfit f hf).path
    have H7 := Lib.hid (treeGood_any cap A fs w2 (HAW.out _ hb2) hsz hcap hfit)
    have H15 := Lib.hid (fun W (hb : Below w.heap.size w W) => apartDirs_any cap A fs W (HAW.out _ hb) hsz hcap hpl)
    clear hfit hpl HR6 h6 H6
    go_upto_region 5 with (first
      | (go_at_call 9; go_must (refine (H9.out _ (by first | exact hb4 | exact hb3)).mono ?_); rintro e w9 ⟨rfl, hb9⟩)
      | (go_at_call 15; go_must (refine (H15.out _ hb3).mono ?_); rintro e w4 ⟨⟨r15, rfl, hr15⟩, hx4⟩; have HR15 := Lib.hid hr15; have hb4 := hb3.trans (hx4.mono hb3.size); clear hr15 hx4)
      | (go_at_call 7; go_must (refine H7.out.mono ?_); rintro e w3 ⟨⟨r7, rfl, hr7⟩, hx3⟩; have HR7 := Lib.hid hr7; have hb3 := hb2.trans (hx3.mono hb2.size); clear hr7 hx3))
    · go_ret
      exact ⟨rfl, hb4.trans (hb9.mono hb4.size)⟩
    · have h7 : r7 = true := by assumption
      have h15 : r15 = true := by assumption
      have hln : fs.length ≠ 0 := by intro e; have h := ‹((fs.length : Int) == 0) = false›; rw [e] at h; cases h
      obtain ⟨hTG, h40, hsum⟩ := HR7.out h7
      have hAF := HR15.out h15
      obtain ⟨hGd, hlong⟩ := hTG.good h40
      obtain ⟨ns, hns⟩ := addFiles_made (rock := false) hGd.ahead
      have hdt : ∀ f ∈ fs, f.data.size ≤ 60000 := fun f hf => Nat.le_trans (sumD_mem fs f hf) hsum
      have hok : ∀ f ∈ fs, FileOk f := fun f hf => ⟨by have := hlong f hf; rw [Array.length_toList] at this; exact this, hdt f hf, (HTM.out f hf).1, (HTM.out f hf).2⟩
      have HIM := Lib.hid (isoImage_any cap A fs ns ⟨#[86]⟩ w4 (by omega) hcap (HAW.out _ hb4) hok (by decide) hns)
      have HTG := Lib.hid hTG; have HAF := Lib.hid hAF; have HGd := Lib.hid hGd; have HLO := Lib.hid hlong; have HNS := Lib.hid hns; have HDT := Lib.hid hdt; have HOK := Lib.hid hok
      clear hTG hAF hGd hlong hns hdt hok HR7 HR15 H7 H15 h7 h15 hsum
      go_upto_region 6 with (first
        | (go_at_call 11; go_must (refine HIM.out.mono ?_); rintro e w5 ⟨O, ks, ds, next, img, rfl, hO, hx5, hL⟩; have HO := Lib.hid hO; have HL := Lib.hid hL; have hb5 := hb4.trans (hx5.mono hb4.size); clear hO hL))
      obtain ⟨pt, hiso⟩ := iso_of HGd.out HOK.out HNS.out (by decide) HL.out
      have T := tr_of hiso HGd.out HAF.out HLO.out
      have hb56 : Below w5.heap.size w5 (w5.alloc (.cells #[.slice (some ⟨O, 0, none⟩) (next * 2048) (next * 2048)] 27)) := (Below.refl _ _).alloc (Nat.le_refl _) _
      have hb6 : Below w.heap.size w (w5.alloc (.cells #[.slice (some ⟨O, 0, none⟩) (next * 2048) (next * 2048)] 27)) := hb5.trans (hb56.mono hb5.size)
      have hC : (w5.alloc (.cells #[.slice (some ⟨O, 0, none⟩) (next * 2048) (next * 2048)] 27)).cell? ⟨w5.heap.size, 0, none⟩ = some (.slice (some ⟨O, 0, none⟩) (next * 2048) (next * 2048)) := ent_cell (cs := [.slice (some ⟨O, 0, none⟩) (next * 2048) (next * 2048)]) (heap_alloc_new w5 _) 0 _ rfl
      have hrd : Rd (w5.alloc (.cells #[.slice (some ⟨O, 0, none⟩) (next * 2048) (next * 2048)] 27)) (w5.alloc (.cells #[.slice (some ⟨O, 0, none⟩) (next * 2048) (next * 2048)] 27)).heap.size (.slice (some ⟨O, 0, none⟩) (next * 2048) (next * 2048)) img := (HO.out.rd.keep hb56 (Nat.le_refl _)).mono hb56.size
      obtain ⟨C, hCe⟩ : ∃ C, w5.heap.size = C := ⟨_, rfl⟩
      rw [hCe] at hC ⊢
      clear hb56 hb5
      generalize w5.alloc (.cells #[.slice (some ⟨O, 0, none⟩) (next * 2048) (next * 2048)] 27) = w6 at hb6 hC hrd ⊢
      have hk : which % fs.length < fs.length := Nat.mod_lt _ (by omega)
      have hrem : (which : Int).tmod (fs.length : Int) = ((which % fs.length : Nat) : Int) := by rw [Int.tmod_eq_emod_of_nonneg (by omega)]; rfl
      generalize which % fs.length = k at hk hrem
      obtain ⟨b, o, rfl, hob, hcells⟩ := HAW.out _ hb6 k hk
      have HPH := Lib.hid (paths_any cap C O (next * 2048) (next * 2048) pt next k _ fs ks ds img _ w6 (HAW.out _ hb6) hcap T hiso (HT.out.later hb6) (treeG_target HTG.out) HDT.out hC hrd hiso.len hk)
      clear T hiso hC hrd
      go_wp2_with (first
        | (go_at_call 9; go_must (refine (H9.out _ hb7).mono ?_); rintro e w9 ⟨rfl, hb9⟩)
        | (go_at_call 16; go_must (refine HPH.out.mono ?_); rintro e w7 ⟨rfl, hx7⟩; have hb7 := hb6.trans (hx7.mono hb6.size))
        | (refine atLoad 37 ?_; go_must (refine wpList_loadFileG (by rfl) (.tmp 38) rfl rfl hcells ?_)))
      go_ret
      exact ⟨rfl, hb7.trans (hb9.mono hb7.size)⟩
    · go_ret
      exact ⟨rfl, hb4.trans (hb9.mono hb4.size)⟩
    · go_ret
      exact ⟨rfl, hb3.trans (hb9.mono hb3.size)⟩
end Go.Proofs.YtilgpaeeleknhaaGreatDoor
end
