/-
  DERIVED. A part of the proof of laws.FnIsoPaths (for every input the law returns true and each argument reads as before; the listed variables read as listed when the call begins). It holds:
  · Walks: readDirectoryPVD where the tree finds the directory, or nothing does.
  · Walks: directoryEntry.getLocation: a path walked down the tree.
-/
import Derived.Test.YtilgpaeeleknhaaGreatDoorIq33
section
namespace Go.Proofs.YtilgpaeeleknhaaGreatDoor
open Go Go.RowKit
set_option linter.unusedSimpArgs false
set_option linter.unusedVariables false

set_option maxRecDepth 100000 in
set_option maxHeartbeats 4000000 in
/-- A directory that the tree finds. -/
theorem readPVD_tree (F M D PT RD i : Nat) (img : List UInt8) (ms : List Node) (ds : List Nat) (p : ByteArray) (w : World) (hW : FsW w F M D PT RD img ms ds) (hD : Disk img ms) (hi : i < ms.length) (hd : dirOf ms i = true)
    (hpt : ∀ W, Below w.heap.size w W → Calls Tryz.prog 132 #[PB PT, .string p] W fun e w' => e = .returned (.int .u32 0) ∧ Below W.heap.size W w')
    (hde : ∀ W, Below w.heap.size w W → Calls Tryz.prog 133 #[PB RD, .string p] W fun e w' => e = .returned (.tuple #[.int .u32 (nodeAt ms i).extent, .int .u32 (nodeAt ms i).size, .nilIface]) ∧ Below W.heap.size W w') :
    Calls Tryz.prog 112 #[PB F, .string p] w fun e w' => DirR w w' F (recsOf ms i) e := by
  have KW : ∀ W, Below w.heap.size w W → FsW W F M D PT RD img ms ds := fun W h => hW.later h
  obtain ⟨hs1, hs2⟩ := hD.small i hi hd
  have hfit := hD.fit i hi hd
  have hpos := hD.pos i hi
  have hext := hD.ext i
  have hsz := hD.size i hi hd
  have hby := hD.bytes i hi hd
  have hrc := hD.recs i hi hd
  have hlen := hD.len
  obtain ⟨E, hE⟩ : ∃ E, (nodeAt ms i).extent = E := ⟨_, rfl⟩
  obtain ⟨S, hS⟩ : ∃ S, (nodeAt ms i).size = S := ⟨_, rfl⟩
  rw [hE] at hfit hpos hext hby hde
  rw [hS] at hs1 hs2 hfit hsz hby hde
  have HK := Lib.hid KW; have HPT := Lib.hid hpt; have HSZ := Lib.hid hsz; have HBY := Lib.hid hby; have HDE := Lib.hid hde; have HRC := Lib.hid hrc; have HOK := Lib.hid (hD.ok i hi hd); have HCN := Lib.hid (hD.cnt i hi)
  have f13 := hW.p.exts
  have f9 := hW.pt
  have m1 := method_ReadAt ⟨M, 0, none⟩
  have hE0 : ((E : Int) == 0) = false := by simp; omega
  have hMl := hW.mlt; have hDl := hW.dlt; have hFl := hW.lt
  clear hW KW hD hpt hsz hby hde hrc hE hS
  go_enter Tryz.func112, Tryz.ntmps112
  go_wp2
  refine wp_loop_rounds 1 ?_
  rw [rounds_succ]
  go_upto_region 27 with (first
    | (at_make; refine asList rfl fun KK hKK => ?_; refine go_makeN (w0 := w) (.tmp 86) (.tmp 86) rfl w.heap.size _ _ _ _ S S rfl rfl rfl rfl (Nat.le_refl _) (by omega) hbw5 (Nat.le_refl _) ?_; intro w6 L6 hL6 hl6 hO6 hb6 hs6; refine hKK _ _ ?_; clear hKK KK)
    | (go_at_call 133; refine (HDE.out _ hb2).mono ?_; rintro e w5 ⟨rfl, hb5⟩; have hbw5 := hb2.trans (hb5.mono hb2.size))
    | (go_at_call 132; refine (HPT.out _ (Below.refl _ _)).mono ?_; rintro e w2 ⟨rfl, hb2⟩; have f10 := (HK.out _ hb2).root))
  have hW6 := HK.out _ hb6
  have f4 := hW6.back
  have f5 := hW6.p.blk
  clear hW6
  go_region_held3 (fun W => W.cell? ⟨F, 4, none⟩ = some (.iface 107 (PB M)) ∧ W.cell? ⟨F, 5, none⟩ = some (.int .i64 2048)) (first | exact ⟨f4, f5⟩ | go_keep | exact ⟨(hb7.cell (p := ⟨F, 4, none⟩) hFl).trans f4, (hb7.cell (p := ⟨F, 5, none⟩) hFl).trans f5⟩) (first
    | (go_at_call 185; go_must (refine (readAt_z M D w.heap.size w5.heap.size S (E * 2048) S _ img L6 _ (wrapE E hext) (HK.out _ hb6.drew).mem hl6.out hO6 (by omega) (by omega) hlen (by exact hb6.size)).mono ?_); go_must (rintro e w7 ⟨rfl, hO7, hb7⟩)))
  have hbw7 : Below w.heap.size w w7 := hb6.drew.trans hb7
  rw [HBY.out] at hO7
  have hsrc7 := own_src hO7 HSZ.out
  have HSRC := Lib.hid hsrc7
  clear hsrc7 hO7 hO6 hb6 hb7 f4 f5 hs6
  go_wp2_with (first
    | (go_at_call 135; refine (pdes_any w5.heap.size S S F (dirBytes ms i) (recsOf ms i) _ HSRC.out HSZ.out (Nat.le_refl _) hs2 (HK.out _ hbw7).p HRC.out HOK.out HCN.out).mono ?_; rintro e w8 ⟨A8, c8, bs, rfl, hO8, hE8, hB8, hb8⟩))
  go_ret2
  exact ⟨A8, c8, bs, rfl, row_lower hO8 hbw7.size, hE8, fun b hb => Nat.le_trans hbw7.size (hB8 b hb), hbw7.trans (hb8.mono hbw7.size)⟩
set_option maxRecDepth 100000 in
set_option maxHeartbeats 4000000 in
/-- A directory that neither finds. -/
theorem readPVD_no (F M D PT RD : Nat) (img : List UInt8) (ms : List Node) (ds : List Nat) (p : ByteArray) (w : World) (hW : FsW w F M D PT RD img ms ds)
    (hpt : ∀ W, Below w.heap.size w W → Calls Tryz.prog 132 #[PB PT, .string p] W fun e w' => e = .returned (.int .u32 0) ∧ Below W.heap.size W w')
    (hde : ∀ W, Below w.heap.size w W → Calls Tryz.prog 133 #[PB RD, .string p] W fun e w' => e = .returned (.tuple #[.int .u32 0, .int .u32 0, .nilIface]) ∧ Below W.heap.size W w') :
    Calls Tryz.prog 112 #[PB F, .string p] w fun e w' => (∃ b, e = .returned (.tuple #[.slice none 0 0, .iface 214 (PB b)])) ∧ Below w.heap.size w w' := by
  have KW : ∀ W, Below w.heap.size w W → FsW W F M D PT RD img ms ds := fun W h => hW.later h
  have HK := Lib.hid KW; have HPT := Lib.hid hpt; have HDE := Lib.hid hde
  have f13 := hW.p.exts
  have f9 := hW.pt
  clear hW KW hpt hde
  go_enter Tryz.func112, Tryz.ntmps112
  go_wp2
  refine wp_loop_rounds 1 ?_
  rw [rounds_succ]
  go_wp2_with (first
    | (go_at_call 76; refine (err_any _ _).mono ?_; rintro e w6 ⟨⟨b, rfl⟩, hb6⟩)
    | (go_at_call 133; refine (HDE.out _ hb2).mono ?_; rintro e w5 ⟨rfl, hb5⟩; have hbw5 := hb2.trans (hb5.mono hb2.size))
    | (go_at_call 132; refine (HPT.out _ (Below.refl _ _)).mono ?_; rintro e w2 ⟨rfl, hb2⟩; have f10 := (HK.out _ hb2).root))
  go_ret2
  exact ⟨⟨b, rfl⟩, hbw5.trans (hb6.mono hbw5.size)⟩
end Go.Proofs.YtilgpaeeleknhaaGreatDoor
end

section
namespace Go.Proofs.YtilgpaeeleknhaaGreatDoor
open Go Go.RowKit
set_option linter.unusedSimpArgs false
set_option linter.unusedVariables false

/-- The kids' ids tell the kids. -/
structure KidOk (ms : List Node) : Prop where
  name : ∀ i, i < ms.length → ∀ k ∈ kidsOf ms i, (nodeAt ms k).id.data.toList ≠ [0] ∧ (nodeAt ms k).id.data.toList ≠ [1]
  dir : ∀ i, i < ms.length → ∀ k ∈ kidsOf ms i, (59 : UInt8) ∉ (nodeAt ms k).id.data.toList → dirOf ms k = true ∧ k < ms.length
def kidR (ms : List Node) (k : Nat) : Rec := ⟨(nodeAt ms k).id.data.toList, (nodeAt ms k).extent, (nodeAt ms k).size, (nodeAt ms k).f.time, (nodeAt ms k).f.dir, (nodeAt ms k).su⟩
def selfR (ms : List Node) (i : Nat) : Rec := ⟨[0], (nodeAt ms i).extent, (nodeAt ms i).size, (nodeAt ms i).f.time, true, []⟩
def parR (ms : List Node) (i : Nat) : Rec := ⟨[1], (nodeAt ms (parOf ms i)).extent, (nodeAt ms (parOf ms i)).size, (nodeAt ms (parOf ms i)).f.time, true, []⟩
theorem recsOf_eq (ms : List Node) (i : Nat) : recsOf ms i = selfR ms i :: parR ms i :: (kidsOf ms i).map (kidR ms) := rfl
theorem self_name (ms : List Node) (i : Nat) : (selfR ms i).name = ⟨#[]⟩ := rfl
theorem par_name (ms : List Node) (i : Nat) : (parR ms i).name = ⟨#[]⟩ := rfl
theorem kid_rname {ms : List Node} (h : KidOk ms) {i k : Nat} (hi : i < ms.length) (hk : k ∈ kidsOf ms i) : (kidR ms k).name = ofL (nodeAt ms k).id.data.toList ∧ (kidR ms k).self = false ∧ (kidR ms k).par = false := by
  obtain ⟨h0, h1⟩ := h.name i hi k hk
  have e1 : (kidR ms k).self = false := by unfold Rec.self kidR; simpa using h0
  have e2 : (kidR ms k).par = false := by unfold Rec.par kidR; simpa using h1
  exact ⟨by unfold Rec.name; rw [if_neg (by rw [e1, e2]; simp)]; rfl, e1, e2⟩
theorem empty_ne {q : List UInt8} (hq : q ≠ []) : (⟨#[]⟩ : ByteArray) ≠ ofL q := by
  intro e
  have := (ofL_iff _ _).1 e
  exact hq this.symm
theorem kid_no {ms : List Node} (h : KidOk ms) {i : Nat} (hi : i < ms.length) {q : List UInt8} (hn : ∀ x ∈ recsOf ms i, x.name ≠ ofL q) : kidOf ms i q = none := by
  unfold kidOf
  rw [List.find?_eq_none]
  intro k hk
  have := hn (kidR ms k) (by rw [recsOf_eq]; simp; exact .inr (.inr ⟨k, hk, rfl⟩))
  rw [(kid_rname h hi hk).1] at this
  simp only [decide_eq_true_eq]
  intro e; rw [e] at this; exact this rfl
theorem kid_hit {ms : List Node} (h : KidOk ms) {i : Nat} (hi : i < ms.length) {q : List UInt8} (hq : q ≠ []) {t : Nat} {r : Rec} (ht : (recsOf ms i)[t]? = some r) (hr : r.name = ofL q) (hn : ∀ x ∈ (recsOf ms i).take t, x.name ≠ ofL q) :
    ∃ k, kidOf ms i q = some k ∧ k ∈ kidsOf ms i ∧ r = kidR ms k ∧ (nodeAt ms k).id.data.toList = q := by
  rw [recsOf_eq] at ht hn
  match t, ht, hn with
  | 0, ht, _ =>
    simp at ht; subst ht; rw [self_name] at hr; exact absurd hr (empty_ne hq)
  | 1, ht, _ =>
    simp at ht; subst ht; rw [par_name] at hr; exact absurd hr (empty_ne hq)
  | t + 2, ht, hn =>
    simp only [List.getElem?_cons_succ] at ht
    rw [List.getElem?_map] at ht
    cases hk : (kidsOf ms i)[t]? with
    | none => rw [hk] at ht; simp at ht
    | some k =>
      rw [hk] at ht
      have ht : kidR ms k = r := by simpa using ht
      have hkm := List.mem_of_getElem? hk
      have hid : (nodeAt ms k).id.data.toList = q := by
        rw [← ht, (kid_rname h hi hkm).1] at hr
        exact (ofL_iff _ _).1 hr
      refine ⟨k, ?_, hkm, ht.symm, hid⟩
      have hkl := (List.getElem?_eq_some_iff.1 hk).1
      have e : kidsOf ms i = (kidsOf ms i).take t ++ k :: (kidsOf ms i).drop (t + 1) := by
        rw [← (List.getElem?_eq_some_iff.1 hk).2, ← List.drop_eq_getElem_cons hkl, List.take_append_drop]
      unfold kidOf
      rw [e, List.find?_append, List.find?_cons]
      have hf : ((kidsOf ms i).take t).find? (fun k => decide ((nodeAt ms k).id.data.toList = q)) = none := by
        rw [List.find?_eq_none]
        intro x hx
        have hxm := List.mem_of_mem_take hx
        have := hn (kidR ms x) (by
          simp only [List.take_succ_cons, List.mem_cons]
          right; right
          rw [← List.map_take]; exact List.mem_map_of_mem hx)
        rw [(kid_rname h hi hxm).1] at this
        simp only [decide_eq_true_eq]
        intro e; rw [e] at this; exact this rfl
      rw [hf, decide_eq_true hid]
      rfl
def locE (ms : List Node) (o : Option Nat) : Nat := match o with | some k => (nodeAt ms k).extent | none => 0
def locS (ms : List Node) (o : Option Nat) : Nat := match o with | some k => (nodeAt ms k).size | none => 0

/-- A part that a path may have. -/
structure PathPart (s : List UInt8) : Prop where
  good : GoodPart s
  back : (92 : UInt8) ∉ s
  semi : (59 : UInt8) ∉ s

theorem row_cap {w : World} {B e n co : Nat} {A : Option Addr} {us : List Value} (h : w.ownsRow B e 1 (.slice A n co) n us) (h0 : 0 < n) : n ≤ co := by
  rcases h.2 with ⟨hv, h1⟩ | ⟨g, cap, cur, hv, hb, hg, hnc, _⟩
  · omega
  · injection hv with _ _ hv
    subst hv
    exact hnc
theorem lens_le (ps : List (List UInt8)) : Lib.Pa.lens ps ≤ (joinP ps).length := by
  induction ps with
  | nil => simp [Lib.Pa.lens]
  | cons s ps ih =>
    by_cases hp : ps = []
    · subst hp; rw [joinP_one]; simp [Lib.Pa.lens]
    · rw [joinP_cons s ps hp]
      simp [Lib.Pa.lens] at ih ⊢
      omega
theorem join_any (g o c : Nat) (rest : List (List UInt8)) (w : World) (hne : rest ≠ []) (hp : ∀ s ∈ rest, GoodPart s) (hcells : ∀ (j : Nat) s, rest[j]? = some s → w.cell? ⟨g, o + j, none⟩ = some (SV s)) (hg : g < w.heap.size) (hl : (joinP rest).length ≤ 10000) (hn : rest.length ≤ 10001) :
    Calls Tryz.prog 83 #[.slice (some ⟨g, o, none⟩) rest.length c] w fun e w' => e = .returned (SV (joinP rest)) ∧ Below w.heap.size w w' := by
  have hmap : (rest.map ofL).map (·.data.toList) = rest := by
    rw [List.map_map]
    exact List.map_id'' (fun l => rfl) rest
  have := Tryz.path_Join_rules g o c (rest.map ofL) w (by
    intro j x hx
    rw [List.getElem?_map] at hx
    cases hj : rest[j]? with
    | none => rw [hj] at hx; simp at hx
    | some s => rw [hj] at hx; simp at hx; subst hx; exact hcells j s hj) hg (by
    rw [hmap, List.length_map]
    have := lens_le rest
    omega)
  rw [List.length_map, hmap, join_join rest hne hp] at this
  exact this
set_option maxRecDepth 100000 in
set_option maxHeartbeats 4000000 in
theorem deLoc_step (F M D PT RD : Nat) (img : List UInt8) (ms : List Node) (ds : List Nat) (hD : Disk img ms) (hK : KidOk ms) (rest : List (List UInt8)) (q : List UInt8) (i b : Nat) (r : Rec) (w : World) (hW : FsW w F M D PT RD img ms ds) (hi : i < ms.length) (hd : dirOf ms i = true) (hent : EntAt w b r (PB F)) (hre : r.e = (nodeAt ms i).extent) (hrs : r.s = (nodeAt ms i).size) (hpp : ∀ s ∈ q :: rest, PathPart s) (hl : (joinP (q :: rest)).length ≤ 10000)
    (ih : ∀ (k b' : Nat) (W : World), rest ≠ [] → k < ms.length → dirOf ms k = true → EntAt W b' (kidR ms k) (PB F) → FsW W F M D PT RD img ms ds → Calls Tryz.prog 133 #[PB b', SV (joinP rest)] W fun e w' => e = .returned (.tuple #[.int .u32 (locE ms (locate ms k rest)), .int .u32 (locS ms (locate ms k rest)), .nilIface]) ∧ Below W.heap.size W w') :
    Calls Tryz.prog 133 #[PB b, SV (joinP (q :: rest))] w fun e w' => e = .returned (.tuple #[.int .u32 (locE ms (locate ms i (q :: rest))), .int .u32 (locS ms (locate ms i (q :: rest))), .nilIface]) ∧ Below w.heap.size w w' := by
  have KW : ∀ W, Below w.heap.size w W → FsW W F M D PT RD img ms ds := fun W h => hW.later h
  have KE : ∀ W, Below w.heap.size w W → EntAt W b r (PB F) := fun W h => hent.later h
  obtain ⟨hs1, hs2⟩ := hD.small i hi hd
  have hfit := hD.fit i hi hd
  have hext := hD.ext i
  have hsz := hD.size i hi hd
  have hby := hD.bytes i hi hd
  have hrc := hD.recs i hi hd
  have hlen := hD.len
  obtain ⟨E, hE⟩ : ∃ E, (nodeAt ms i).extent = E := ⟨_, rfl⟩
  obtain ⟨S, hS⟩ : ∃ S, (nodeAt ms i).size = S := ⟨_, rfl⟩
  rw [hE] at hfit hext hby hre
  rw [hS] at hs1 hs2 hfit hsz hby hrs
  have KC : ∀ W, Below w.heap.size w W → W.cell? ⟨b, 1, none⟩ = some (.int .u32 E) ∧ W.cell? ⟨b, 2, none⟩ = some (.int .u32 S) ∧ W.cell? ⟨b, 16, none⟩ = some (PB F) := fun W h => by
    have := (KE W h).cells
    refine ⟨?_, ?_, this.fs⟩
    · rw [← hre]; exact this.e
    · rw [← hrs]; exact this.s
  have hbl := hent.lt
  have hqq := hpp q (by simp)
  have hqd : (q == [46]) = false := by simpa using hqq.good.dot
  have hps : ∀ s ∈ q :: rest, (47 : UInt8) ∉ s ∧ (92 : UInt8) ∉ s ∧ s ≠ [] := fun s hs => ⟨(hpp s hs).good.no, (hpp s hs).back, (hpp s hs).good.ne⟩
  have hpl : rest.length + 1 ≤ 10001 := by
    have h1 := els_length (joinP (q :: rest))
    rw [els_join _ (by simp) (fun s hs => (hps s hs).1)] at h1
    simp at h1; omega
  obtain ⟨R, hR⟩ : ∃ R, joinP (q :: rest) = R := ⟨_, rfl⟩
  have HSP := Lib.hid (fun w => splitPath_any (q :: rest) w (by simp) hps hl)
  rw [hR] at HSP ⊢
  have HKW := Lib.hid KW; have HKE := Lib.hid KE; have HKC := Lib.hid KC; have HSZ := Lib.hid hsz; have HBY := Lib.hid hby; have HRC := Lib.hid hrc; have HOK := Lib.hid (hD.ok i hi hd); have HCN := Lib.hid (hD.cnt i hi); have HIH := Lib.hid ih; have HPP := Lib.hid hpp; have HL := Lib.hid hl; have HR := Lib.hid hR
  have m1 := method_ReadAt ⟨M, 0, none⟩
  have hFl := hW.lt
  obtain ⟨rs, hrse⟩ : ∃ rs, recsOf ms i = rs := ⟨_, rfl⟩
  rw [hrse] at HRC HOK HCN
  have HRS := Lib.hid hrse
  clear hW KW KE KC hent hre hrs hsz hby hrc hE hS hps hpp hl ih hR hrse
  go_enter Tryz.func133, Tryz.ntmps133
  go_upto_region 7 with (first
    | (at_make; refine asList rfl fun KK hKK => ?_; refine go_makeN (w0 := w2) (.tmp 52) (.tmp 52) rfl w2.heap.size _ _ _ _ S S rfl rfl rfl rfl (Nat.le_refl _) (by omega) (Below.refl _ _) (Nat.le_refl _) ?_; intro w3 L3 hL3 hl3 hO3 hb3 hs3; refine hKK _ _ ?_; clear hKK KK)
    | (go_at_call 148; refine (HSP.out _).mono ?_; rintro e w2 ⟨A, co, rfl, hO, hb2⟩; obtain ⟨g, rfl, hgw, hgl, hc⟩ := row_addr hO (by simp); have c0 := hc 0 _ rfl; have HC := Lib.hid hc; have hcap := row_cap hO (by simp); clear hc hO; obtain ⟨d1, d2, d16⟩ := HKC.out _ hb2; simp only [List.length_cons]))
  have hbw3 : Below w.heap.size w w3 := hb2.trans (hb3.mono hb2.size)
  have hW3 := HKW.out _ hbw3
  have f4 := hW3.back
  have f5 := hW3.p.blk
  obtain ⟨e1, _, e16⟩ := HKC.out _ hbw3
  have hww := hb2.size
  clear hW3 d1 d2 d16
  go_region_held3 (fun W => W.cell? ⟨F, 4, none⟩ = some (.iface 107 (PB M)) ∧ W.cell? ⟨F, 5, none⟩ = some (.int .i64 2048) ∧ W.cell? ⟨b, 1, none⟩ = some (.int .u32 E) ∧ W.cell? ⟨b, 16, none⟩ = some (PB F)) (first | exact ⟨f4, f5, e1, e16⟩ | go_keep | exact ⟨(hb4.cell (p := ⟨F, 4, none⟩) (Nat.lt_of_lt_of_le hFl hww)).trans f4, (hb4.cell (p := ⟨F, 5, none⟩) (Nat.lt_of_lt_of_le hFl hww)).trans f5, (hb4.cell (p := ⟨b, 1, none⟩) (Nat.lt_of_lt_of_le hbl hww)).trans e1, (hb4.cell (p := ⟨b, 16, none⟩) (Nat.lt_of_lt_of_le hbl hww)).trans e16⟩) (first
    | (go_at_call 185; go_must (refine (readAt_z M D w2.heap.size w2.heap.size S (E * 2048) S _ img L3 _ (wrapE E hext) (HKW.out _ hbw3.drew).mem hl3.out hO3 (by omega) (by omega) hlen (by exact hb3.size)).mono ?_); go_must (rintro e w4 ⟨rfl, hO4, hb4⟩)))
  have hb24 : Below w2.heap.size w2 w4 := hb3.drew.trans hb4
  have hbw4 : Below w.heap.size w w4 := hb2.trans (hb24.mono hb2.size)
  rw [HBY.out] at hO4
  have hsrc4 := own_src hO4 HSZ.out
  have HSRC := Lib.hid hsrc4
  obtain ⟨d1, d2, d16⟩ := HKC.out _ hbw4
  have hcn : rs.length ≤ 1000 := HCN.out
  have hrs2 : 2 ≤ rs.length := by rw [← HRS.out, recsOf_eq]; simp
  clear hsrc4 hO4 hO3 f4 f5 e1 e16 hs3 hb3 hb4 hbw3 c0
  go_wp2_with (first
    | (go_at_call 135; refine (pdes_any w2.heap.size S S F (dirBytes ms i) rs _ HSRC.out HSZ.out (Nat.le_refl _) hs2 (HKW.out _ hbw4).p HRC.out HOK.out HCN.out).mono ?_; rintro e w5 ⟨A5, c5, bs, rfl, hO5, hE5, hB5, hb5⟩; obtain ⟨g5, rfl, _, hg5, hc5⟩ := row_addr hO5 (by omega); have HC5 := Lib.hid hc5; have HE5 := Lib.hid hE5; clear hc5 hO5 hE5 hB5))
  have hbw5 : Below w.heap.size w w5 := hbw4.trans (hb5.mono hbw4.size)
  have hb25 : Below w2.heap.size w2 w5 := hb24.trans (hb5.mono hb24.size)
  have HB25 := Lib.hid hb25
  clear d1 d2 d16 hb24 hb5 hbw4 hb25
  go_loopw [4, 5, 103] (fun lv sv iv wr => ∃ t : Nat, t ≤ rs.length ∧ iv = .int .i64 t ∧ lv = .int .u32 0 ∧ sv = .int .u32 0 ∧ Below w5.heap.size w5 wr ∧ Hid (∀ x ∈ rs.take t, x.name ≠ ofL q)) (fun _ _ iv _ => rs.length - (intOf iv).toNat)
  case atStart => exact ⟨0, Nat.zero_le _, rfl, rfl, rfl, Below.refl _ _, by simp [Hid]⟩
  case round =>
    obtain ⟨t, ht, rfl, rfl, rfl, hb, hno⟩ := hrel
    by_cases hlt : t < rs.length
    · obtain ⟨x, hx⟩ : ∃ x, rs[t]? = some x := ⟨_, List.getElem?_eq_getElem hlt⟩
      have htb : t < bs.length := by rw [HE5.out.1]; exact hlt
      obtain ⟨bt, hbt⟩ : ∃ bt, bs[t]? = some bt := ⟨_, List.getElem?_eq_getElem htb⟩
      have hp1 := HC5.out t (PB bt) (by rw [List.getElem?_map, hbt]; rfl)
      rw [← hb.cell (p := ⟨g5, t, none⟩) hg5] at hp1
      have hEt := (HE5.out.2 t bt x hbt hx).later hb
      have hbwr : Below w.heap.size w wr := hbw5.trans (hb.mono hbw5.size)
      obtain ⟨_, _, d16⟩ := HKC.out _ hbwr
      have f11 := (HKW.out _ hbwr).p.sus
      have y17 := hEt.cells.name
      have htk : rs.take (t + 1) = rs.take t ++ [x] := by
        rw [← List.take_append_getElem hlt]; congr 2
        rw [List.getElem?_eq_getElem hlt] at hx; simpa using hx
      have HTK := Lib.hid htk; have HX := Lib.hid hx; have HET := Lib.hid hEt
      clear htk hx hEt hbt
      by_cases hnm : x.name = ofL q
      · rw [hnm] at y17
        obtain ⟨k, hk1, hk2, hk3, hk4⟩ := kid_hit hK hi hqq.good.ne (t := t) (r := x) (by rw [HRS.out]; exact HX.out) hnm (by rw [HRS.out]; exact hno.out)
        obtain ⟨hkd, hkl⟩ := hK.dir i hi k hk2 (by rw [hk4]; exact hqq.semi)
        have hxd : x.d = true := by rw [hk3]; exact hkd
        have y7 := HET.out.cells.d
        rw [hxd] at y7
        have hqt : (q == q) = true := by simp
        have HK1 := Lib.hid hk1; have HK3 := Lib.hid hk3
        have y1 := HET.out.cells.e
        have y2 := HET.out.cells.s
        have hloc : locate ms i (q :: rest) = locate ms k rest := by unfold locate; rw [HK1.out]; cases rest <;> rfl
        have HLOC := Lib.hid hloc
        clear hk1 hk2 hk3 hk4 hnm hxd hloc
        by_cases hr0 : rest = []
        · have hrl : rest.length = 0 := by rw [hr0]; rfl
          have HR0 := Lib.hid hr0
          clear hr0
          go_wp2_with (fail)
          go_ret3
          refine ⟨?_, hbwr⟩
          rw [HLOC.out, HR0.out, HK3.out]
          rfl
        · have hrl : 0 < rest.length := List.length_pos_iff.2 hr0
          have hco : ¬ co = 1 := by simp at hcap; omega
          have hgw2 : g < wr.heap.size := by have := hb.size; have := HB25.out.size; omega
          have hcg : ∀ (j : Nat) s, rest[j]? = some s → wr.cell? ⟨g, 1 + j, none⟩ = some (SV s) := by
            intro j s hj
            rw [(HB25.out.trans (hb.mono HB25.out.size)).cell (p := ⟨g, 1 + j, none⟩) hgl]
            exact HC.out (1 + j) _ (by rw [List.getElem?_map, Nat.add_comm 1 j, List.getElem?_cons_succ, hj]; rfl)
          have hjl : (joinP rest).length ≤ 10000 := by
            have := HL.out
            rw [joinP_cons q rest hr0] at this
            simp at this; omega
          have hgp : ∀ s ∈ rest, GoodPart s := fun s hs => (HPP.out s (by simp [hs])).good
          have HCG := Lib.hid hcg; have HGP := Lib.hid hgp; have HR0 := Lib.hid hr0
          clear hcg hgp hr0
          go_wp2_with (first
            | (go_at_call 133; refine (HIH.out k bt _ HR0.out hkl hkd (HK3.out ▸ (HET.out.later hb6)) ((HKW.out _ hbwr).later hb6)).mono ?_; rintro e w7 ⟨rfl, hb7⟩)
            | (go_at_call 83; refine (join_any g 1 _ rest _ HR0.out HGP.out HCG.out hgw2 hjl (by omega)).mono ?_; rintro e w6 ⟨rfl, hb6⟩))
          go_ret3
          have hbw6 : Below w.heap.size w w6 := hbwr.trans (hb6.mono hbwr.size)
          refine ⟨?_, hbw6.trans (hb7.mono hbw6.size)⟩
          rw [HLOC.out]
          rfl
      · have hnb : (x.name.toList == q) = false := by
          rw [Lib.toList_data]
          simp only [beq_eq_false_iff_ne, ne_eq]
          exact fun e => hnm ((ofL_iff _ _).2 e)
        go_wp2_with (fail)
        go_roundw
        case rel =>
          refine ⟨t + 1, hlt, by simp, rfl, rfl, hb, ?_⟩
          unfold Hid; rw [HTK.out]
          intro y hy
          rcases List.mem_append.1 hy with h | h
          · exact hno.out y h
          · rw [List.mem_singleton] at h; subst h; exact hnm
        case measure => simp [intOf]; omega
    · go_wp2_with (fail)
      go_ret3
      have hte : t = rs.length := by omega
      subst hte
      have hno := hno.out
      rw [List.take_length, ← HRS.out] at hno
      have e : locate ms i (q :: rest) = none := by unfold locate; rw [kid_no hK hi hno]; rfl
      rw [e]
      exact ⟨rfl, hbw5.trans (hb.mono hbw5.size)⟩
/-- getLocation, of a path of parts. -/
theorem deLoc_any (F M D PT RD : Nat) (img : List UInt8) (ms : List Node) (ds : List Nat) (hD : Disk img ms) (hK : KidOk ms) : ∀ (rest : List (List UInt8)) (q : List UInt8) (i b : Nat) (r : Rec) (w : World), FsW w F M D PT RD img ms ds → i < ms.length → dirOf ms i = true → EntAt w b r (PB F) → r.e = (nodeAt ms i).extent → r.s = (nodeAt ms i).size → (∀ s ∈ q :: rest, PathPart s) → (joinP (q :: rest)).length ≤ 10000 →
    Calls Tryz.prog 133 #[PB b, SV (joinP (q :: rest))] w fun e w' => e = .returned (.tuple #[.int .u32 (locE ms (locate ms i (q :: rest))), .int .u32 (locS ms (locate ms i (q :: rest))), .nilIface]) ∧ Below w.heap.size w w' := by
  intro rest
  induction rest with
  | nil =>
    intro q i b r w hW hi hd hent hre hrs hpp hl
    exact deLoc_step F M D PT RD img ms ds hD hK [] q i b r w hW hi hd hent hre hrs hpp hl (fun k b' W h => absurd rfl h)
  | cons q2 rest2 ih =>
    intro q i b r w hW hi hd hent hre hrs hpp hl
    refine deLoc_step F M D PT RD img ms ds hD hK (q2 :: rest2) q i b r w hW hi hd hent hre hrs hpp hl (fun k b' W _ hk hkd he hWW => ?_)
    refine ih q2 k b' _ W hWW hk hkd he rfl rfl (fun s hs => hpp s (by simp at hs ⊢; right; exact hs)) ?_
    rw [joinP_cons q (q2 :: rest2) (by simp)] at hl
    simp at hl; omega
end Go.Proofs.YtilgpaeeleknhaaGreatDoor
end
