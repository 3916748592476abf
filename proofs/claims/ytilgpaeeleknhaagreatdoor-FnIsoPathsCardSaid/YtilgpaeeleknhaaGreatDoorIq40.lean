/-
  DERIVED. A part of the proof of laws.FnIsoPaths (for every input the law returns true and each argument reads as before; the listed variables read as listed when the call begins). It holds:
  · Walks: isoRoads.
  · Walks: roads.one.
-/
import Derived.Test.YtilgpaeeleknhaaGreatDoorIq39
import Derived.Test.YtilgpaeeleknhaaGreatDoorIq21
import Derived.Test.YtilgpaeeleknhaaGreatDoorIq36
section
namespace Go.Proofs.YtilgpaeeleknhaaGreatDoor
open Go Go.RowKit
set_option linter.unusedSimpArgs false
set_option linter.unusedVariables false
theorem fsw_other {w w' : World} {F M D PT RD x : Nat} {img : List UInt8} {ms : List Node} {ds : List Nat} {cs : Array Value} (h : FsW w F M D PT RD img ms ds) (hx : w.heap[x]? = some (.cells cs 76)) (h4 : cs.size = 4) (hv : ∀ (k b : Nat), cs[k]? ≠ some (PB b)) (hv' : ∀ (k : Nat) (s : ByteArray), cs[k]? ≠ some (.string s)) (hM : M ≠ x) (hD : D ≠ x) (ho : ∀ k, k ≠ x → w'.heap[k]? = w.heap[k]?) (hs : w.heap.size ≤ w'.heap.size) : FsW w' F M D PT RD img ms ds := by
  have hcell : ∀ k j, k ≠ x → w'.cell? ⟨k, j, none⟩ = w.cell? ⟨k, j, none⟩ := fun k j hk => by simp only [World.cell?, ho k hk]
  have cx : ∀ j, w.cell? ⟨x, j, none⟩ = cs[j]? := fun j => by simp [World.cell?, hx]
  have hF : F ≠ x := by
    rintro rfl
    have := h.p.blk
    rw [cx, Array.getElem?_eq_none (by omega)] at this
    cases this
  obtain ⟨r, h1, h2, x0, a, X, c2, ht, hE⟩ := h.rootat
  obtain ⟨bs, g, co, p1, p2, p3, p4⟩ := h.ptat
  have hR : RD ≠ x := by rintro rfl; rw [hx] at hE; injection hE with hE; injection hE with _ hE; exact absurd hE (by decide)
  have hP : PT ≠ x := by rintro rfl; rw [hx] at p1; injection p1 with p1; injection p1 with _ p1; exact absurd p1 (by decide)
  refine ⟨⟨(hcell F _ hF).trans h.p.blk, (hcell F _ hF).trans h.p.sus, (hcell F _ hF).trans h.p.exts⟩, Nat.lt_of_lt_of_le h.mlt hs, Nat.lt_of_lt_of_le h.dlt hs, (hcell F _ hF).trans h.back, ⟨?_, fun j u hu => (hcell D j hD).trans (h.mem.bytes j u hu)⟩, (hcell F _ hF).trans h.work, (hcell F _ hF).trans h.jol, (hcell F _ hF).trans h.pt, ⟨bs, g, co, (ho PT hP).trans p1, Nat.lt_of_lt_of_le p2 hs, ?_, p4.1, fun k hk hk' => ?_⟩, (hcell F _ hF).trans h.root, ⟨r, h1, h2, x0, a, X, c2, ht, (ho RD hR).trans hE⟩, ?_⟩
  · obtain ⟨c, q1, q2⟩ := h.mem.data
    exact ⟨c, q1, (hcell M 0 hM).trans q2⟩
  · intro k b hk
    have e := p3 k b hk
    have hg : g ≠ x := by rintro rfl; rw [cx] at e; exact hv k b e
    exact (hcell g k hg).trans e
  · have e := p4.2 k hk hk'
    refine (ho _ ?_).trans e
    intro e2; rw [e2, hx] at e; injection e with e; injection e with _ e; exact absurd e (by decide)
  · obtain ⟨V, s, l1, l2⟩ := h.lab
    have hVx : V ≠ x := by rintro rfl; rw [cx] at l2; exact hv' 1 s l2
    exact ⟨V, s, (hcell F _ hF).trans l1, (hcell V _ hVx).trans l2⟩
set_option maxRecDepth 1000000 in
set_option maxHeartbeats 4000000 in
theorem roads_any (I n c pt li : Nat) (img vol : List UInt8) (r : Rec) (ms : List Node) (ds : List Nat) (w : World) (hrd : Rd w w.heap.size (.slice (some ⟨I, 0, none⟩) n c) img) (hn : img.length = n) (hI : IsoD img vol r pt li ms ds) :
    Calls Tryz.prog 36 #[.slice (some ⟨I, 0, none⟩) n c, .int .i64 2048] w fun e w' => ∃ F M D PT RD, FsW w' F M D PT RD img ms ds ∧ Below w.heap.size w w' ∧ ∃ B, w'.heap[B]? = some (.cells #[PB F] 102) ∧ e = .returned (.tuple #[.agg #[.func (.func 62) #[PB F] #[], .func (.func 63) #[PB F] #[], .func (.func 64) #[PB F] #[], .func (.func 65) #[] #[PB B]], .bool true]) := by
  have hlen := hI.len
  have HRD := Lib.hid hrd
  have HI := Lib.hid hI
  have KR : ∀ W, Below w.heap.size w W → Rd W w.heap.size (.slice (some ⟨I, 0, none⟩) n c) img := fun W h => hrd.keep h (Nat.le_refl _)
  have HKR := Lib.hid KR
  obtain ⟨st, hst⟩ : ∃ st, ofL img = st := ⟨_, rfl⟩
  have hs1 : st.size ≤ 1000000000 := by rw [← hst, size_ofL]; exact hlen
  have hs2 : st.data.toList = img := by subst hst; first | done | rfl | simp [ofL]
  have HST := Lib.hid hst; have HS2 := Lib.hid hs2
  clear hrd KR hI hst hs2 hlen
  go_enter Tryz.func36, Tryz.ntmps36
  go_wp2_with (first
    | (refine atConvert 27 9 ?_; refine asList rfl fun KK hKK => ?_; go_must (refine wp_toStr (.tmp 9) rfl (fun b => b < w.heap.size) _ img rfl (HKR.out _ ((Below.refl _ _).alloc (Nat.le_refl _) _)) ?_); rw [HST.out]; refine hKK _ _ ?_; clear hKK KK)
    | (go_at_call 60; go_must (refine (read_any M D n pt li img vol r ms ds w3 (by have := hMm; rw [HS2.out] at this; exact this) hM3 hD3 hn HI.out).mono ?_); rintro e w4 ⟨F, PT, RD, rfl, hF, hb4⟩; have hx4 : w.heap.size < w4.heap.size := Nat.lt_of_lt_of_le (by simp) (Nat.le_trans hb3.size hb4.size); have r4 := (hb4.block w.heap.size (Nat.lt_of_lt_of_le (by simp) hb3.size)).trans r3; have r9 := Lib.hid ((((Below.refl w4.heap.size w4).alloc (Nat.le_refl _) (Obj.cells #[PB F] 102)).block w.heap.size hx4).trans r4))
    | (refine atStore 76 ?_; refine wpList_storeB rfl 76 _ _ rfl (b := w.heap.size) rfl _ _ 76 rfl r9.out (by kernel_rfl) (by rfl) (by rfl) ?_; intro w10 g1 g2 g3 g4)
    | (go_at_call 61; go_must (refine (memoryOf_any st _ hs1).mono ?_); rintro e w3 ⟨M, D, rfl, hMm, hM3, hD3, hM1, hD1, hb3⟩; have r3 := (hb3.block w.heap.size (by simp)).trans (heap_alloc_new w _)))
  refine bodyPost_ret (v := .tuple #[.agg #[_, _, _, _], _]) (results_cell_row2 rfl _ _ w.heap.size 76 #[_, _, _, _] (0, 0) _ rfl g1 Tryz.underlying76 rfl (by kernel_rfl)) rfl ?_
  have hbA : Below w.heap.size w w3 := ((Below.refl w.heap.size w).alloc (Nat.le_refl _) _).trans (hb3.mono (by simp))
  have hbB : Below w.heap.size w w4 := hbA.trans (hb4.mono hbA.size)
  have hbC := hbB.alloc hbB.size (Obj.cells #[PB F] 102)
  have hF5 := hF.later ((Below.refl w4.heap.size w4).alloc (Nat.le_refl _) (Obj.cells #[PB F] 102))
  have hM1' : w.heap.size + 1 ≤ M := by simpa using hM1
  have hD1' : w.heap.size + 1 ≤ D := by simpa using hD1
  refine ⟨F, M, D, PT, RD, fsw_other hF5 r9.out rfl ?_ ?_ (by omega) (by omega) g3 (Nat.le_of_eq g4.symm), hbC.trans (g2 _ (Nat.le_refl _)), w4.heap.size, (g3 _ (by omega)).trans (heap_alloc_new w4 _), rfl⟩
  · intro k b e
    rcases k with _ | _ | _ | _ | k <;> simp at e
  · intro k s e
    rcases k with _ | _ | _ | _ | k <;> simp at e
end Go.Proofs.YtilgpaeeleknhaaGreatDoor
end

section
namespace Go.Proofs.YtilgpaeeleknhaaGreatDoor
open Go Go.RowKit
set_option linter.unusedSimpArgs false
set_option linter.unusedVariables false
theorem heap_new2 (w : World) (o1 o2 : Obj) : ((w.alloc o1).alloc o2).heap[w.heap.size + 1]? = some o2 := by
  have h := heap_alloc_new (w.alloc o1) o2
  have e : (w.alloc o1).heap.size = w.heap.size + 1 := by simp
  rw [e] at h
  exact h
abbrev RoadsV (F B : Nat) : Value := .agg #[.func (.func 62) #[PB F] #[], .func (.func 63) #[PB F] #[], .func (.func 64) #[PB F] #[], .func (.func 65) #[] #[PB B]]
set_option maxRecDepth 1000000 in
set_option maxHeartbeats 4000000 in
theorem one_hit (F B : Nat) (p : ByteArray) (r : Rec) (w : World) (hF : FsP w F false) (hn : r.name.size ≤ 1000) (hs : r.s < 4294967296)
    (h64 : ∀ W, Below w.heap.size w W → Calls Tryz.prog 64 #[PB F, .string p] W fun e w' => ∃ b, e = .returned (.tuple #[IB b, .nilIface]) ∧ EntAt w' b r (PB F) ∧ Below W.heap.size W w') :
    Calls Tryz.prog 41 #[RoadsV F B, .string p] w fun e w' => ∃ x a, e = .returned (.tuple #[.agg (leafC p r.told r (wrap64 (x - 62135596800))).toArray, .bool true]) ∧ TimeOf r.t x a ∧ Below w.heap.size w w' := by
  have H64 := Lib.hid h64
  have KF : ∀ W, Below w.heap.size w W → FsP W F false := fun W h => hF.later h
  have HKF := Lib.hid KF
  clear h64 hF KF
  go_enter Tryz.func41, Tryz.ntmps41
  go_wp2_with (first
    | (go_at_call 72; go_must (refine (leaf_any p w3 b F r hE3 (HKF.out _ hbw3).sus hn hs).mono ?_); rintro e w4 ⟨x, a, rfl, ht, hb4⟩; have r9 := Lib.hid ((hb4.block (w.heap.size + 1) (Nat.lt_of_lt_of_le (by simp) hb3.size)).trans r3))
    | (refine atStore 39 ?_; refine wpList_storeB rfl 39 _ _ rfl (b := w.heap.size + 1) rfl _ _ 39 rfl r9.out (by kernel_rfl) (by rfl) (by rfl) ?_; intro w10 g1 g2 g3 g4)
    | (go_at_call 64; go_must (refine (H64.out _ (((Below.refl _ _).alloc (Nat.le_refl _) _).alloc (by simp) _)).mono ?_); rintro e w3 ⟨b, rfl, hE3, hb3⟩; have hbw3 : Below w.heap.size w w3 := (((Below.refl w.heap.size w).alloc (Nat.le_refl _) _).alloc (by simp) _).trans (hb3.mono (by simp; omega)); have r3 := (hb3.block (w.heap.size + 1) (by simp)).trans (heap_new2 w _ _)))
  refine bodyPost_ret (v := .tuple #[.agg (leafC p r.told r (wrap64 (x - 62135596800))).toArray, _]) (results_cell_row2 rfl _ _ (w.heap.size + 1) 39 _ (0, 0) _ rfl g1 Tryz.underlying39 rfl (by kernel_rfl)) rfl ?_
  exact ⟨x, a, rfl, ht, (hbw3.trans (hb4.mono hbw3.size)).trans (g2 _ (by omega))⟩
set_option maxRecDepth 1000000 in
set_option maxHeartbeats 4000000 in
theorem one_no (F B : Nat) (p : ByteArray) (w : World)
    (h64 : ∀ W, Below w.heap.size w W → Calls Tryz.prog 64 #[PB F, .string p] W fun e w' => ∃ b, e = .returned (.tuple #[.nilIface, .iface 188 (PB b)]) ∧ Below W.heap.size W w') :
    Calls Tryz.prog 41 #[RoadsV F B, .string p] w fun e w' => (∃ l : List Value, l.length = 15 ∧ l.all (·.oneCell') = true ∧ e = .returned (.tuple #[.agg l.toArray, .bool false])) ∧ Below w.heap.size w w' := by
  have H64 := Lib.hid h64
  clear h64
  go_enter Tryz.func41, Tryz.ntmps41
  go_wp2_with (first
    | (go_at_call 64; go_must (refine (H64.out _ (((Below.refl _ _).alloc (Nat.le_refl _) _).alloc (by simp) _)).mono ?_); rintro e w3 ⟨b, rfl, hb3⟩; have hbw3 : Below w.heap.size w w3 := (((Below.refl w.heap.size w).alloc (Nat.le_refl _) _).alloc (by simp) _).trans (hb3.mono (by simp; omega)); have r3 := (hb3.block (w.heap.size + 1) (by simp)).trans (heap_new2 w _ _); have r9 := Lib.hid r3)
    | (refine atStore 39 ?_; refine wpList_storeB rfl 39 _ _ rfl (b := w.heap.size + 1) rfl _ _ 39 rfl r9.out (by kernel_rfl) (by rfl) (by rfl) ?_; intro w10 g1 g2 g3 g4))
  refine bodyPost_ret (v := .tuple #[.agg _, _]) (results_cell_row2 rfl _ _ (w.heap.size + 1) 39 _ (0, 0) _ rfl g1 Tryz.underlying39 rfl (by kernel_rfl)) rfl ?_
  refine ⟨⟨_, ?_, ?_, rfl⟩, hbw3.trans (g2 _ (by omega))⟩ <;> rfl
end Go.Proofs.YtilgpaeeleknhaaGreatDoor
end
