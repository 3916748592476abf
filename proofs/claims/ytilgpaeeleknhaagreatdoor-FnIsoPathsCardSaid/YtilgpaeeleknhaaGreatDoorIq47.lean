/-
  DERIVED. A part of the proof of laws.FnIsoPaths (for every input the law returns true and each argument reads as before; the listed variables read as listed when the call begins). It holds:
  · What pathsHold asks, answered of an image of a plain tree.
  · pathsHold answers 'true' of every file of a plain tree's image.
-/
import Derived.Test.YtilgpaeeleknhaaGreatDoorIq46
import Derived.Test.YtilgpaeeleknhaaGreatDoorIq44
import Derived.Test.YtilgpaeeleknhaaGreatDoorIq43
section
namespace Go.Proofs.YtilgpaeeleknhaaGreatDoor
open Go Go.RowKit
set_option linter.unusedSimpArgs false
set_option linter.unusedVariables false
section
variable {fs : List File} {ms : List Node} {ds : List Nat} {img : List UInt8}
theorem Tr.kidB_iff (T : Tr fs ms ds img) (i k : Nat) (hi : i < ms.length) (h0 : 0 < i) (hk : k < fs.length) : kidB (nodeAt ms i).f (nodeAt ms (k + 1)).f = true ↔ parOf ms (k + 1) = i := by
  have hl := T.fam.len
  obtain ⟨h1, h2, h3, h4⟩ := T.step (k + 1) (Nat.succ_pos _) (by omega)
  obtain ⟨hp1, hp2, hp3, hp4⟩ := T.fam.par k hk
  have ek : Lib.Pa.els (nodeAt ms (k + 1)).f.p = pts ms (k + 1) := by unfold pts; rw [if_neg (Nat.succ_ne_zero k)]
  have ei : Lib.Pa.els (nodeAt ms i).f.p = pts ms i := by unfold pts; rw [if_neg (by omega)]
  unfold kidB
  rw [decide_eq_true_eq, ek, ei, ← hp3]
  constructor
  · rintro ⟨_, h5⟩
    by_cases hz : parOf ms (k + 1) = 0
    · exfalso
      rw [hz, T.fam.root.1] at h5
      have h5 : ([] : List UInt8) = (nodeAt ms i).f.p := h5
      have hpl := T.good.plain T.fam i hi [] (by rw [← ei, ← h5]; simp [Lib.Pa.els])
      exact hpl.good.ne rfl
    · refine pts_inj T.good T.fam _ i (by omega) hi ?_
      rw [← ei, ← h5]; unfold pts; rw [if_neg hz]
  · intro h5
    rw [h5]
    refine ⟨?_, rfl⟩
    rw [h1, h5, List.length_append]; rfl
theorem range_map {α : Type} (l : List α) (g : Nat → α) (h : ∀ k, k < l.length → l[k]? = some (g k)) : l = (List.range l.length).map g := by
  apply List.ext_getElem?
  intro k
  rw [List.getElem?_map]
  by_cases hk : k < l.length
  · rw [h k hk, List.getElem?_range hk]; rfl
  · rw [List.getElem?_eq_none (by omega), List.getElem?_eq_none (by rw [List.length_range]; omega)]; rfl
theorem Tr.count (T : Tr fs ms ds img) (hnod : ∀ i, (kidsOf ms i).Nodup) (i : Nat) (hi : i < ms.length) (h0 : 0 < i) : (kidsOf ms i).length = cntK (nodeAt ms i).f fs := by
  have hl := T.fam.len
  have e := range_map fs (fun k => (nodeAt ms (k + 1)).f) (fun k hk => T.fam.file k hk)
  have hc : cntK (nodeAt ms i).f fs = (((List.range fs.length).filter (fun k => kidB (nodeAt ms i).f (nodeAt ms (k + 1)).f)).map (· + 1)).length := by
    unfold cntK
    conv => lhs; rw [e]
    rw [List.filter_map, List.length_map, List.length_map]; rfl
  rw [hc]
  have hmem : ∀ k, k ∈ ((List.range fs.length).filter (fun k => kidB (nodeAt ms i).f (nodeAt ms (k + 1)).f)).map (· + 1) ↔ k ∈ kidsOf ms i := by
    intro k
    rw [List.mem_map, T.fam.kids i hi]
    constructor
    · rintro ⟨j, hj, rfl⟩
      rw [List.mem_filter, List.mem_range] at hj
      exact ⟨Nat.succ_pos _, by omega, (T.kidB_iff i j hi h0 hj.1).1 hj.2⟩
    · rintro ⟨k0, k1, k2⟩
      refine ⟨k - 1, ?_, by omega⟩
      rw [List.mem_filter, List.mem_range]
      refine ⟨by omega, (T.kidB_iff i (k - 1) hi h0 (by omega)).2 ?_⟩
      rw [show k - 1 + 1 = k by omega]; exact k2
  have hn2 : (((List.range fs.length).filter (fun k => kidB (nodeAt ms i).f (nodeAt ms (k + 1)).f)).map (· + 1)).Nodup := by
    refine List.Pairwise.map _ ?_ ((List.nodup_range).filter _)
    intro a b hab e
    exact hab (by omega)
  exact Nat.le_antisymm (List.Nodup.length_le_of_subset (hnod i) (fun x hx => (hmem x).2 hx)) (List.Nodup.length_le_of_subset hn2 (fun x hx => (hmem x).1 hx))
def kidNames (ms : List Node) (i : Nat) : List ByteArray := (kidsOf ms i).map fun k => ofL (nam ms k)
theorem Tr.names (T : Tr fs ms ds img) (i : Nat) (hi : i < ms.length) (h0 : 0 < i) (y : File) (hy : y ∈ fs) (hk : kidB (nodeAt ms i).f y = true) : ofL (cutLast y.p).2 ∈ kidNames ms i := by
  have hl := T.fam.len
  obtain ⟨k, hk1⟩ := List.mem_iff_getElem?.1 hy
  have hkl := (List.getElem?_eq_some_iff.1 hk1).1
  have e := T.fam.file k hkl
  rw [hk1] at e
  have e := Option.some.inj e
  subst e
  have hp := (T.kidB_iff i k hi h0 hkl).1 hk
  exact List.mem_map.2 ⟨k + 1, (T.fam.kids i hi _).2 ⟨Nat.succ_pos _, by omega, hp⟩, rfl⟩
theorem Tr.row (T : Tr fs ms ds img) (i : Nat) (hi : i < ms.length) : (tellR (recsOf ms i)).map (fun r => Value.string r.told) = (kidNames ms i).map Value.string := by
  rw [T.tell i hi, List.map_map]
  unfold kidNames
  rw [List.map_map]
  apply List.map_congr_left
  intro k hk
  show Value.string (kidR ms k).told = Value.string (ofL (nam ms k))
  rw [T.told i k hi hk]
end
set_option maxRecDepth 1000000 in
theorem clo17 (C I n c : Nat) (p : ByteArray) (b : Bool) (R : List Value → Prop) (hR : ∀ l, R l → l.length = 15 ∧ l.all (·.oneCell') = true) (w : World) (hC : w.cell? ⟨C, 0, none⟩ = some (.slice (some ⟨I, 0, none⟩) n c))
    (h : ∀ W, Below w.heap.size w W → Calls Tryz.prog 18 #[.slice (some ⟨I, 0, none⟩) n c, .int .i64 2048, .string p] W fun e w' => ∃ l : List Value, e = .returned (.tuple #[.agg l.toArray, .bool b]) ∧ R l ∧ Below W.heap.size W w') :
    Calls Tryz.prog 17 #[.string p, PB C] w fun e w' => ∃ l : List Value, e = .returned (.tuple #[.agg l.toArray, .bool b]) ∧ R l ∧ Below w.heap.size w w' := by
  have H := Lib.hid h; have HR := Lib.hid hR
  have hCl : C < w.heap.size := World.block_lt_of_cell? _ _ hC
  clear h hR
  go_enter Tryz.func17, Tryz.ntmps17
  go_wp2_with (first
    | (refine atStore 39 ?_; refine wpList_storeB rfl 39 _ _ rfl (b := w.heap.size) rfl l _ 39 rfl r3 (by rw [hl1]; exact info39) (by rw [hl1]; rfl) hl2 ?_; intro w10 j1 j2 j3 j4)
    | (go_at_call 18; go_must (refine (H.out _ ((Below.refl _ _).alloc (Nat.le_refl _) _)).mono ?_); rintro e w3 ⟨l, rfl, hl, hb3⟩; obtain ⟨hl1, hl2⟩ := HR.out l hl; have r3 := (hb3.block w.heap.size (by simp)).trans (heap_alloc_new w _)))
  refine bodyPost_ret (v := .tuple #[.agg l.toArray, _]) (results_cell_row2 rfl _ _ w.heap.size 39 _ (0, 0) _ rfl j1 Tryz.underlying39 rfl (by rw [List.size_toArray, hl1]; kernel_rfl)) rfl ?_
  have hA : Below w.heap.size w w3 := ((Below.refl w.heap.size w).alloc (Nat.le_refl _) _).trans (hb3.mono (by simp))
  exact ⟨l, rfl, hl, hA.trans (j2 _ (Nat.le_refl _))⟩
set_option maxRecDepth 1000000 in
theorem clo19 (C I n c : Nat) (p : ByteArray) (R : World → World → Ending → Prop) (w : World) (hC : w.cell? ⟨C, 0, none⟩ = some (.slice (some ⟨I, 0, none⟩) n c))
    (h : Calls Tryz.prog 20 #[.slice (some ⟨I, 0, none⟩) n c, .int .i64 2048, .string p] w fun e w' => ∃ A k co b, e = .returned (.tuple #[.slice A k co, .bool b]) ∧ R w w' e) :
    Calls Tryz.prog 19 #[.string p, PB C] w fun e w' => R w w' e := by
  have H := Lib.hid h
  clear h
  go_enter Tryz.func19, Tryz.ntmps19
  go_wp2_with (go_at_call 20; go_must (refine H.out.mono ?_); rintro e w3 ⟨A, k, co, b, rfl, hr⟩; have HRR := Lib.hid hr; clear hr)
  exact HRR.out
end Go.Proofs.YtilgpaeeleknhaaGreatDoor
end

section
namespace Go.Proofs.YtilgpaeeleknhaaGreatDoor
open Go Go.RowKit
set_option linter.unusedSimpArgs false
set_option linter.unusedVariables false
theorem leafW_of (p : ByteArray) (r : Rec) (tm : Int) (nm : ByteArray) (h : r.told = nm) : LeafW (leafC p r.told r tm) nm r.d r.s := by
  refine ⟨rfl, rfl, ?_, rfl, rfl⟩
  rw [← h]; rfl
theorem path_q0 (f g : File) (h : g.p = f.p ++ [81, 48]) : g.path = f.path ++ q0 := by
  apply ba_ext
  rw [show g.path.data.toList = g.p from rfl, h]
  simp
theorem paths_any (cap C I n c pt next k : Nat) (A : Option Addr) (fs : List File) (ms : List Node) (ds : List Nat) (img vol : List UInt8) (w : World) (hA : FilesR w w.heap.size A fs) (hcap : fs.length ≤ cap)
    (T : Tr fs ms ds img) (hiso : Iso fs ms ds img vol next pt) (hT : Tabs w) (htg : ∀ f ∈ fs, f.target = ⟨#[]⟩) (hdt : ∀ f ∈ fs, f.data.size ≤ 60000)
    (hC : w.cell? ⟨C, 0, none⟩ = some (.slice (some ⟨I, 0, none⟩) n c)) (hrd : Rd w w.heap.size (.slice (some ⟨I, 0, none⟩) n c) img) (hn : img.length = n) (hk : k < fs.length) :
    Calls Tryz.prog 16 #[.slice A fs.length cap, .agg fs[k].cells.toArray, .func (.func 17) #[] #[PB C], .func (.func 19) #[] #[PB C]] w fun e w' => e = .returned (.bool true) ∧ Below w.heap.size w w' := by
  have hlen := T.fam.len
  have hcnt := T.good.count
  have hfk : fs[k] = (nodeAt ms (k + 1)).f := by
    have := T.fam.file k hk
    rw [List.getElem?_eq_getElem hk] at this
    exact Option.some.inj this
  rw [hfk]
  have hmem : (nodeAt ms (k + 1)).f ∈ fs := T.fam.mem k hk
  have hi : k + 1 < ms.length := by omega
  have h0 : 0 < k + 1 := Nat.succ_pos _
  generalize k + 1 = i at hi h0 hmem
  obtain ⟨hs1, hs2, hs3, hs4⟩ := T.step i h0 hi
  have hpl : ∀ f ∈ fs, f.path.size ≤ 900 := fun f hf => by have := T.long f hf; rw [Array.length_toList] at this; exact this
  have hCl : C < w.heap.size := World.block_lt_of_cell? _ _ hC
  have hCW : ∀ W, Below w.heap.size w W → W.cell? ⟨C, 0, none⟩ = some (.slice (some ⟨I, 0, none⟩) n c) := fun W hb => (hb.cell (p := ⟨C, 0, none⟩) hCl).trans hC
  have hRW : ∀ W, Below w.heap.size w W → Rd W W.heap.size (.slice (some ⟨I, 0, none⟩) n c) img := fun W hb => (hrd.keep hb (Nat.le_refl _)).mono hb.size
  -- a node's stat
  have hstat : ∀ j, j < ms.length → 0 < j → ∀ W, Below w.heap.size w W → Calls Tryz.prog 17 #[.string (nodeAt ms j).f.path, PB C] W fun e w' => ∃ l : List Value, e = .returned (.tuple #[.agg l.toArray, .bool true]) ∧ LeafW l (ofL (nam ms j)) (nodeAt ms j).f.dir ((nodeAt ms j).size : Int) ∧ Below W.heap.size W w' := by
    intro j hj hj0 W hb
    obtain ⟨_, hj2, hj3, hj4⟩ := T.step j hj0 hj
    have ho := T.disk.ok (parOf ms j) (by omega) hj3 (kidR ms j) (by rw [recsOf_eq]; simp only [List.mem_cons, List.mem_map]; exact .inr (.inr ⟨j, hj4, rfl⟩))
    refine clo17 C I n c _ true (fun l => LeafW l (ofL (nam ms j)) (nodeAt ms j).f.dir ((nodeAt ms j).size : Int)) (fun l h => ⟨h.len, h.one⟩) W (hCW W hb) (fun W' hb' => ?_)
    have hbb := hb.trans (hb'.mono hb.size)
    refine (isoStat_hit I n c pt 18 img vol (selfR ms 0) (kidR ms j) ms ds (nodeAt ms j).f.path W' (hRW W' hbb) hn hiso.isoD ?_ ho.s (fun F M D PT RD V hbV hFs => T.statHit F M D PT RD j V hj hj0 hFs (hT.later (hbb.trans (hbV.mono hbb.size))))).mono ?_
    · rw [(kid_rname T.kid (by omega) hj4).1, size_ofL]; have := ho.id2; exact Nat.le_trans this (by decide)
    · rintro e w' ⟨x, a, rfl, _, hbx⟩
      exact ⟨_, rfl, leafW_of _ _ _ _ (T.told _ j (by omega) hj4), hbx⟩
  -- the two questions
  have hasked : ∃ is2, Asked w C (nodeAt ms i).f (ofL (nam ms i)) ((nodeAt ms i).size : Int) is2 ∧ (is2 = true → ∃ g ∈ fs, g.path = (nodeAt ms i).f.path ++ q0) := by
    rcases T.statMore i hi h0 with ⟨j, hj0, hj, hje⟩ | hno
    · refine ⟨true, ⟨hstat i hi h0, fun W hb => ?_⟩, fun _ => ?_⟩
      · rw [← path_q0 _ _ hje]
        refine (hstat j hj hj0 W hb).mono ?_
        rintro e w' ⟨l, he, hl, hbx⟩
        exact ⟨l, he, hl.len, hl.one, hbx⟩
      · have := T.fam.mem (j - 1) (by omega)
        rw [show j - 1 + 1 = j by omega] at this
        exact ⟨_, this, path_q0 _ _ hje⟩
    · refine ⟨false, ⟨hstat i hi h0, fun W hb => ?_⟩, fun h => by cases h⟩
      have hpe : SV ((nodeAt ms i).f.p ++ [81, 48]) = .string ((nodeAt ms i).f.path ++ q0) := by
        exact string_eq (by simp)
      refine (clo17 C I n c _ false (fun l => l.length = 15 ∧ l.all (·.oneCell') = true) (fun l h => h) W (hCW W hb) (fun W' hb' => ?_)).mono ?_
      · have hbb := hb.trans (hb'.mono hb.size)
        refine (isoStat_no I n c pt 18 img vol (selfR ms 0) ms ds _ W' (hRW W' hbb) hn hiso.isoD (fun F M D PT RD V hbV hFs => ?_)).mono ?_
        · have := hno F M D PT RD V hFs (hT.later (hbb.trans (hbV.mono hbb.size)))
          rw [hpe] at this
          exact this
        · rintro e w' ⟨⟨l, h1, h2, rfl⟩, hbx⟩
          exact ⟨l, rfl, ⟨h1, h2⟩, hbx⟩
      · rintro e w' ⟨l, he, hl, hbx⟩
        exact ⟨l, he, hl.1, hl.2, hbx⟩
  obtain ⟨is2, hQ, hi2⟩ := hasked
  obtain ⟨qs, s, hE, hcut⟩ := els_cut (nodeAt ms i).f.p
  have hns : nam ms i = s := by unfold nam; rw [hcut]
  rw [hns] at hQ
  have hpe : SV (pth ms i) = .string (nodeAt ms i).f.path := by
    unfold SV pth; rw [if_neg (by omega), ← path_pts T.fam i hi]
  cases hd : dirOf ms i with
  | false =>
    obtain ⟨hz1, hz2, hz3⟩ := hiso.data i hi hd
    rw [hz1] at hQ
    refine pathsHold_file cap qs.length C A fs (nodeAt ms i).f qs s is2 w hA (by omega) hcap (by have := hpl _ hmem; omega) (htg _ hmem) hE rfl hQ hi2 hd (by have := hdt _ hmem; omega) (fun W hb => ?_)
    refine clo19 C I n c _ (fun w w' e => e = .returned (.tuple #[.slice none 0 0, .bool false]) ∧ Below w.heap.size w w') W (hCW W hb) ?_
    refine (isoList_no I n c pt 18 img vol (selfR ms 0) ms ds _ W (hRW W hb) hn hiso.isoD (fun F M D PT RD V hbV hFs => ?_)).mono ?_
    · have := T.listNo F M D PT RD i V hi h0 hd hFs (hT.later (hb.trans (hbV.mono hb.size)))
      rw [hpe] at this
      exact this
    · rintro e w' ⟨rfl, hbx⟩
      exact ⟨none, 0, 0, false, rfl, rfl, hbx⟩
  | true =>
    have hcn := T.count hiso.nod i hi h0
    have hkl : (kidNames ms i).length = (kidsOf ms i).length := by unfold kidNames; rw [List.length_map]
    have hle := cntK_le (nodeAt ms i).f fs
    refine pathsHold_dir cap qs.length C _ (kidNames ms i) A fs (nodeAt ms i).f qs s is2 w hA (by omega) hcap (by have := hpl _ hmem; omega) (htg _ hmem) hE rfl hQ hi2 hd (fun y hy => by have := hpl y hy; omega) (by omega) (fun y hy h => T.names i hi h0 y hy h) (by omega) (fun W hb => ?_)
    refine clo19 C I n c _ (fun W w' e => ∃ A co, e = .returned (.tuple #[.slice A (kidNames ms i).length co, .bool true]) ∧ w'.ownsRow W.heap.size 9 1 (.slice A (kidNames ms i).length co) (kidNames ms i).length ((kidNames ms i).map Value.string) ∧ Below W.heap.size W w') W (hCW W hb) ?_
    have hrow := T.row i hi
    have hlr : (tellR (recsOf ms i)).length = (kidNames ms i).length := by have := congrArg List.length hrow; simpa using this
    refine (isoList_hit I n c pt 18 img vol (selfR ms 0) (tellR (recsOf ms i)) ms ds _ W (hRW W hb) hn hiso.isoD (by omega) (fun r hr => ?_) (fun F M D PT RD V hbV hFs => ?_)).mono ?_
    · have ho := T.disk.ok i hi hd r (List.mem_filter.1 hr).1
      unfold Rec.name
      split
      · decide
      · rw [size_ofL]; have := ho.id2; omega
    · have := T.list F M D PT RD i V hi hd hFs (hT.later (hb.trans (hbV.mono hb.size)))
      rw [hpe] at this
      exact this
    · rintro e w' ⟨A', co, rfl, hO, hbx⟩
      rw [hrow, hlr] at hO
      rw [hlr]
      exact ⟨A', _, co, true, rfl, A', co, rfl, hO, hbx⟩
end Go.Proofs.YtilgpaeeleknhaaGreatDoor
end
