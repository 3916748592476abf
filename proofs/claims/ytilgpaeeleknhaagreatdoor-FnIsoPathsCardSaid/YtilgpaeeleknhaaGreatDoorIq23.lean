/-
  DERIVED. A part of the proof of laws.FnIsoPaths (for every input the law returns true and each argument reads as before; the listed variables read as listed when the call begins). It holds:
  · Walks: a directory's records (isoRecords).
  · Walks: IsoImage's closure lay.
-/
import Derived.Test.YtilgpaeeleknhaaGreatDoorIq20
section
namespace Go.Proofs.YtilgpaeeleknhaaGreatDoor
open Go Go.RowKit
set_option linter.unusedSimpArgs false
set_option linter.unusedVariables false

theorem NodesW.range {w : World} {B g n c : Nat} {xs : List XNode} (h : NodesW w B (.slice (some ⟨g, 0, none⟩) n c) xs) (i : Nat) (hi : i < xs.length) : w.rangeAt g (i * 18) xs[i].cells := fun j u hu => h.cells i hi j u hu
theorem NodesW.kid {w : World} {B g n c : Nat} {xs : List XNode} (h : NodesW w B (.slice (some ⟨g, 0, none⟩) n c) xs) (i : Nat) (hi : i < xs.length) (j : Nat) (hj : j < xs[i].kids.length) :
    ∃ gk, xs[i].ka = some ⟨gk, 0, none⟩ ∧ w.cell? ⟨gk, j, none⟩ = some (.int .i64 (xs[i].kids.getD j 0)) ∧ gk < w.heap.size := by
  have hO : OwnI w B (.slice xs[i].ka xs[i].kids.length xs[i].kc) xs[i].kids := h.kids _ (List.getElem_mem hi)
  obtain ⟨gk, e, hc⟩ := hO.cell j hj
  refine ⟨gk, e, hc, ?_⟩
  have := h.bound.2 _ (List.getElem_mem hi)
  exact this.1 _ e

set_option maxRecDepth 100000 in
set_option maxHeartbeats 2000000 in
theorem su_any (x : XNode) (Ab : Nat) (w : World) (hm : x.more = []) : Calls Tryz.prog 54 #[.agg x.cells.toArray, .pointer (some ⟨Ab, 0, none⟩)] w fun e w' => e = .returned (.slice x.sa x.su.length x.sc) ∧ Below w.heap.size w w' := by
  have hm0 : x.more.length = 0 := by rw [hm]; rfl
  go_enter Tryz.func54, Tryz.ntmps54
  go_wp2_with (fail)
  go_ret
  exact ⟨rfl, (Below.refl _ _).alloc (Nat.le_refl _) _⟩

theorem two_rows {W : World} {z z' cs ds : Array Value} {t : TypeId} {n : Nat} (hn : W.heap.size = n) : (((W.alloc (.cells z t)).alloc (.cells z' t)).setRow n cs).setRow (n + 1) ds = (W.alloc (.cells cs t)).alloc (.cells ds t) := by
  subst hn
  unfold World.setRow World.alloc; congr 1; apply Array.ext
  · simp
  · intro i h1 h2
    simp only [Array.getElem_modify, Array.getElem_push]
    simp only [Array.size_modify, Array.size_push] at h1 h2 ⊢
    by_cases hi : i = W.heap.size + 1
    · subst hi; simp
    · by_cases hi2 : i = W.heap.size
      · subst hi2; simp
      · have h3 : i < W.heap.size := by omega
        have a1 : ¬ W.heap.size + 1 = i := fun e => hi e.symm
        have a2 : ¬ W.heap.size = i := fun e => hi2 e.symm
        have a3 : i < W.heap.size + 1 := by omega
        simp [a1, a2, a3, h3]
theorem two_rows' {W : World} {z z' cs ds : Array Value} {t : TypeId} {n : Nat} (hn : W.heap.size = n) : (((W.alloc (.cells z t)).alloc (.cells z' t)).setRow (n + 1) cs).setRow n ds = (W.alloc (.cells ds t)).alloc (.cells cs t) := by
  subst hn
  unfold World.setRow World.alloc; congr 1; apply Array.ext
  · simp
  · intro i h1 h2
    simp only [Array.getElem_modify, Array.getElem_push]
    simp only [Array.size_modify, Array.size_push] at h1 h2 ⊢
    by_cases hi : i = W.heap.size + 1
    · subst hi; simp
    · by_cases hi2 : i = W.heap.size
      · subst hi2; simp
      · have h3 : i < W.heap.size := by omega
        have a1 : ¬ W.heap.size + 1 = i := fun e => hi e.symm
        have a2 : ¬ W.heap.size = i := fun e => hi2 e.symm
        have a3 : i < W.heap.size + 1 := by omega
        simp [a1, a2, a3, h3]

theorem setRow_drew (X : World) (n : Nat) (c : Array Value) : X.drew.setRow n c = (X.setRow n c).drew := rfl
theorem two_rowsD {W : World} {z z' cs ds : Array Value} {t : TypeId} {n : Nat} (hn : W.heap.size = n) : ((((W.alloc (.cells z t)).alloc (.cells z' t)).drew).setRow n cs).setRow (n + 1) ds = ((W.alloc (.cells cs t)).alloc (.cells ds t)).drew := by
  rw [setRow_drew, setRow_drew, two_rows hn]
theorem two_rowsD' {W : World} {z z' cs ds : Array Value} {t : TypeId} {n : Nat} (hn : W.heap.size = n) : ((((W.alloc (.cells z t)).alloc (.cells z' t)).drew).setRow (n + 1) cs).setRow n ds = ((W.alloc (.cells ds t)).alloc (.cells cs t)).drew := by
  rw [setRow_drew, setRow_drew, two_rows' hn]
theorem alloc_at1 {W : World} {z z' : Array Value} {t : TypeId} {n : Nat} (hn : W.heap.size = n) : ((W.alloc (.cells z t)).alloc (.cells z' t)).heap[n]? = some (.cells z t) := by
  subst hn; show ((W.heap.push _).push _)[W.heap.size]? = _; rw [Array.getElem?_push, if_neg (by simp), Array.getElem?_push_size]
theorem alloc_at2 {W : World} {z z' : Array Value} {t : TypeId} {n : Nat} (hn : W.heap.size = n) : ((W.alloc (.cells z t)).alloc (.cells z' t)).heap[n + 1]? = some (.cells z' t) := by
  subst hn; show ((W.heap.push _).push _)[W.heap.size + 1]? = _; rw [Array.getElem?_push, if_pos (by simp)]
theorem setRow_at {W : World} {cs : Array Value} {n m : Nat} {o : Option Obj} (h : W.heap[m]? = o) (hne : m ≠ n) : (W.setRow n cs).heap[m]? = o := by rw [setRow_other W n m cs hne]; exact h

/-- The world behind the variables: two nodes in blocks of their own. -/
theorem afterRows (w : World) (area : Nat) (cs ds : Array Value) :
    let W := ((((w.alloc (.cells #[.int .u32 area] 35)).alloc (.cells #[.slice none 0 0] 27)).alloc (.cells cs 64)).alloc (.cells ds 64)).drew
    W.heap.size = w.heap.size + 4 ∧ Below w.heap.size w W ∧ W.rangeAt (w.heap.size + 1 + 1) 0 cs.toList ∧ W.rangeAt (w.heap.size + 1 + 1 + 1) 0 ds.toList ∧ W.heap[w.heap.size + 1]? = some (.cells #[.slice none 0 0] 27) := by
  intro W
  have h1 : ((w.alloc (.cells #[.int .u32 area] 35)).alloc (.cells #[.slice none 0 0] 27)).heap.size = w.heap.size + 1 + 1 := by simp
  have e1 : W.heap[w.heap.size + 1 + 1]? = some (.cells cs 64) := alloc_at1 h1
  have e2 : W.heap[w.heap.size + 1 + 1 + 1]? = some (.cells ds 64) := alloc_at2 h1
  refine ⟨by show ((((w.heap.push _).push _).push _).push _).size = _; simp, ?_, ?_, ?_, ?_⟩
  · exact (((((Below.refl _ _).alloc (Nat.le_refl _) _).alloc (by simp) _).alloc (by simp; try omega) _).alloc (by simp; try omega) _).drew
  · intro j u hu
    simp only [World.cell?, e1]
    simpa using hu
  · intro j u hu
    simp only [World.cell?, e2]
    simpa using hu
  · have := @alloc_at2 w #[.int .u32 area] #[.slice none 0 0] 27 w.heap.size
    show ((((w.heap.push _).push _).push _).push _)[w.heap.size + 1]? = _
    rw [Array.getElem?_push, if_neg (by simp; try omega), Array.getElem?_push, if_neg (by simp), Array.getElem?_push, if_pos (by simp)]
/-- What the walk behind it knows of whatever world it stands in. -/
structure Rows (w Wr W : World) (V b12 b13 : Nat) (ci cp : List Value) : Prop where
  at1 : ∀ (j : Nat) (u : Value), ci[j]? = some u → W.cell? ⟨b12, j, none⟩ = some u
  at2 : ∀ (j : Nat) (u : Value), cp[j]? = some u → W.cell? ⟨b13, j, none⟩ = some u
  below : Below w.heap.size w W
theorem Rows.of {w Wr : World} {V b12 b13 : Nat} {ci cp : List Value} (h1 : Wr.rangeAt b12 0 ci) (h2 : Wr.rangeAt b13 0 cp) (hb : Below w.heap.size w Wr) (hs : Wr.heap.size = w.heap.size + 4) (hV : V = w.heap.size + 1) (hb12 : b12 < Wr.heap.size ∧ b12 ≠ V) (hb13 : b13 < Wr.heap.size ∧ b13 ≠ V) (W : World) (hW : KeptX Wr.heap.size V Wr W) : Rows w Wr W V b12 b13 ci cp := by
  have key : ∀ (b : Nat) (cs : List Value), Wr.rangeAt b 0 cs → b < Wr.heap.size ∧ b ≠ V → ∀ (j : Nat) (u : Value), cs[j]? = some u → W.cell? ⟨b, j, none⟩ = some u := by
    intro b cs h hb j u hu
    have := h j u hu
    rw [Nat.zero_add] at this
    simp only [World.cell?] at this ⊢
    rw [hW.block b hb.1 hb.2]
    exact this
  refine ⟨key b12 ci h1 hb12, key b13 cp h2 hb13, ?_⟩
  exact hb.trans (hW.below (by omega) (by omega))

/-- The records of a directory, with its first j kids. -/
def rows0 (xs : List XNode) (i p j : Nat) : List (List UInt8) :=
  isoRec [0] (nodeAt (XNode.ns xs) i).extent (nodeAt (XNode.ns xs) i).size (nodeAt (XNode.ns xs) i).f.time true [] :: isoRec [1] (nodeAt (XNode.ns xs) p).extent (nodeAt (XNode.ns xs) p).size (nodeAt (XNode.ns xs) p).f.time true [] :: ((kidsOf (XNode.ns xs) i).take j).map (fun k => kidRec (nodeAt (XNode.ns xs) k))

theorem rec_le (nm : ByteArray) (e z : Nat) (t : Int) (d : Bool) (su : List UInt8) (q : Nat) (hq : (isoRec nm.data.toList e z t d su).length = q) (h1 : nm.size ≤ 1000) (h2 : su.length ≤ 1000) : q ≤ 2048 := by
  have hl : nm.data.toList.length = nm.size := by rw [Array.length_toList]; rfl
  rw [isoRec_length, hl] at hq
  unfold recLen evn at hq
  split at hq <;> split at hq <;> omega
theorem rows0_succ (xs : List XNode) (i p j k : Nat) (hi : i < xs.length) (hj : j < xs[i].kids.length) (hk : xs[i].kids.getD j 0 = k) : rows0 xs i p (j + 1) = rows0 xs i p j ++ [kidRec (nodeAt (XNode.ns xs) k)] := by
  have e : kidsOf (XNode.ns xs) i = xs[i].kids := by
    show (nodeAt (XNode.ns xs) i).kids = _; rw [nodeAt_ns xs i hi]
  unfold rows0
  rw [e, take_snoc hj, hk, List.map_append]
  rfl

theorem rows0_all (xs : List XNode) (i p : Nat) (hi : i < xs.length) (hp : xs[i].parent = p) : rows0 xs i p xs[i].kids.length = dirRecs (XNode.ns xs) i := by
  have e : kidsOf (XNode.ns xs) i = xs[i].kids := by
    show (nodeAt (XNode.ns xs) i).kids = _; rw [nodeAt_ns xs i hi]
  have e2 : parOf (XNode.ns xs) i = p := by
    show (nodeAt (XNode.ns xs) i).parent = _; rw [nodeAt_ns xs i hi]; exact hp
  unfold rows0 dirRecs
  rw [e, e2, List.take_length]

set_option maxRecDepth 100000 in
set_option maxHeartbeats 16000000 in
theorem isoRecords_any (B g c i p area : Nat) (xs : List XNode) (w : World) (hN : NodesW w B (.slice (some ⟨g, 0, none⟩) xs.length c) xs) (hl : xs.length ≤ 100001) (hi : i < xs.length) (hpe : xs[i].parent = p) (hp : p < xs.length)
    (hk : ∀ k ∈ xs[i].kids, k < xs.length) (hkl : xs[i].kids.length ≤ 100001) (hsu : ∀ (j : Nat) (h : j < xs.length), xs[j].su.length ≤ 1000) (hmore : ∀ (j : Nat) (h : j < xs.length), xs[j].more = []) (hid : ∀ (j : Nat) (h : j < xs.length), xs[j].id.size ≤ 1000)
    (hex : ∀ (j : Nat) (h : j < xs.length), xs[j].extent < 4294967296) (hsz : ∀ (j : Nat) (h : j < xs.length), xs[j].size < 4294967296) (ht : ∀ (j : Nat) (h : j < xs.length), -9223372036854775808 ≤ xs[j].f.time ∧ xs[j].f.time ≤ 9223372036854775807) :
    Calls Tryz.prog 33 #[.slice (some ⟨g, 0, none⟩) xs.length c, .int .i64 i, .bool false, .int .u32 area] w fun e w' => ∃ A' c', e = .returned (.slice A' (dirBytes (XNode.ns xs) i).length c') ∧ Own w' w.heap.size (.slice A' (dirBytes (XNode.ns xs) i).length c') (dirBytes (XNode.ns xs) i) ∧ Below w.heap.size w w' := by
  have hg := (hN.len_le rfl).2.2
  have r1 := hN.range i hi
  have r2 := hN.range p hp
  have c1 := hN.cells i hi 9 _ rfl
  rw [hpe] at c1
  have HN := Lib.hid hN
  clear hN
  go_enter Tryz.func33, Tryz.ntmps33
  go_wp2_with (fail)
  have NC : ∀ W : World, Below w.heap.size w W → W.rangeAt g (i * 18) xs[i].cells ∧ W.rangeAt g (p * 18) xs[p].cells ∧ W.cell? ⟨g, i * 18 + 9, none⟩ = some (.int .i64 p) := by
    intro W hW
    exact ⟨rangeAt_keep r1 hW hg, rangeAt_keep r2 hW hg, by rw [hW.cell (p := ⟨g, i * 18 + 9, none⟩) hg]; exact c1⟩
  have NC' := Lib.hid NC
  clear NC r1 r2 c1
  have u64 := under64
  refine wp_region_held_drew (S := fun W => Below w.heap.size w W) (by kernel_rfl) (((Below.refl _ _).alloc (Nat.le_refl _) _).alloc (by simp) _).drew (fun hHeld => ?_)
  refine wpAnyH_take (i := 0) (v := .slice (some ⟨g, 0, none⟩) xs.length c) (rfl : _ = some (Oper.mk _ _ _ _ _ _)) (by kernel_rfl) (by kernel_rfl) (by kernel_rfl) (fun _ _ _ h => h) (Or.inl ⟨by rfl, fun W hW => ?_⟩) (by assumption) ?_
  · first | (go_simp; done) | (have hc := (NC'.out W hW).2.2; go_simp; done) | (have hc := (NC'.out W hW).2.2; simp [execOp, hc]; done)
  try simp only [Act.put, List.setIfInBounds_toArray, List.set_cons_zero, List.set_cons_succ]
  refine wpAnyH_take (i := 1) (v := .int .i64 i) (rfl : _ = some (Oper.mk _ _ _ _ _ _)) (by kernel_rfl) (by kernel_rfl) (by kernel_rfl) (fun _ _ _ h => h) (Or.inl ⟨by rfl, fun W hW => ?_⟩) (by assumption) ?_
  · first | (go_simp; done) | (have hc := (NC'.out W hW).2.2; go_simp; done) | (have hc := (NC'.out W hW).2.2; simp [execOp, hc]; done)
  try simp only [Act.put, List.setIfInBounds_toArray, List.set_cons_zero, List.set_cons_succ]
  refine wpAnyH_take (i := 2) (v := .pointer (some ⟨g, i * 18, none⟩)) (rfl : _ = some (Oper.mk _ _ _ _ _ _)) (by kernel_rfl) (by kernel_rfl) (by kernel_rfl) (fun _ _ _ h => h) (Or.inl ⟨by rfl, fun W hW => ?_⟩) (by assumption) ?_
  · first | (go_simp; done) | (have hc := (NC'.out W hW).2.2; go_simp; done) | (have hc := (NC'.out W hW).2.2; simp [execOp, hc]; done)
  try simp only [Act.put, List.setIfInBounds_toArray, List.set_cons_zero, List.set_cons_succ]
  refine wpAnyH_take (i := 3) (rfl : _ = some (Oper.mk _ _ _ _ _ _)) (by kernel_rfl) (by kernel_rfl) (by kernel_rfl) (fun _ _ _ h => h) (yieldsIf_load_mid (by rfl) 64 _ rfl g (i * 18) rfl xs[i].cells _ (fun W hW => by first | exact (NC'.out W hW).1 | exact (NC'.out W hW).2.1) u64.choose_spec.1 u64.choose_spec.2 info64) (by assumption) ?_
  try simp only [Act.put, List.setIfInBounds_toArray, List.set_cons_zero, List.set_cons_succ]
  refine wpAnyH_take (i := 4) (v := .slice (some ⟨g, 0, none⟩) xs.length c) (rfl : _ = some (Oper.mk _ _ _ _ _ _)) (by kernel_rfl) (by kernel_rfl) (by kernel_rfl) (fun _ _ _ h => h) (Or.inl ⟨by rfl, fun W hW => ?_⟩) (by assumption) ?_
  · first | (go_simp; done) | (have hc := (NC'.out W hW).2.2; go_simp; done) | (have hc := (NC'.out W hW).2.2; simp [execOp, hc]; done)
  try simp only [Act.put, List.setIfInBounds_toArray, List.set_cons_zero, List.set_cons_succ]
  refine wpAnyH_take (i := 5) (v := .slice (some ⟨g, 0, none⟩) xs.length c) (rfl : _ = some (Oper.mk _ _ _ _ _ _)) (by kernel_rfl) (by kernel_rfl) (by kernel_rfl) (fun _ _ _ h => h) (Or.inl ⟨by rfl, fun W hW => ?_⟩) (by assumption) ?_
  · first | (go_simp; done) | (have hc := (NC'.out W hW).2.2; go_simp; done) | (have hc := (NC'.out W hW).2.2; simp [execOp, hc]; done)
  try simp only [Act.put, List.setIfInBounds_toArray, List.set_cons_zero, List.set_cons_succ]
  refine wpAnyH_take (i := 6) (v := .int .i64 i) (rfl : _ = some (Oper.mk _ _ _ _ _ _)) (by kernel_rfl) (by kernel_rfl) (by kernel_rfl) (fun _ _ _ h => h) (Or.inl ⟨by rfl, fun W hW => ?_⟩) (by assumption) ?_
  · first | (go_simp; done) | (have hc := (NC'.out W hW).2.2; go_simp; done) | (have hc := (NC'.out W hW).2.2; simp [execOp, hc]; done)
  try simp only [Act.put, List.setIfInBounds_toArray, List.set_cons_zero, List.set_cons_succ]
  refine wpAnyH_take (i := 7) (v := .pointer (some ⟨g, i * 18, none⟩)) (rfl : _ = some (Oper.mk _ _ _ _ _ _)) (by kernel_rfl) (by kernel_rfl) (by kernel_rfl) (fun _ _ _ h => h) (Or.inl ⟨by rfl, fun W hW => ?_⟩) (by assumption) ?_
  · first | (go_simp; done) | (have hc := (NC'.out W hW).2.2; go_simp; done) | (have hc := (NC'.out W hW).2.2; simp [execOp, hc]; done)
  try simp only [Act.put, List.setIfInBounds_toArray, List.set_cons_zero, List.set_cons_succ]
  refine wpAnyH_take (i := 8) (v := .pointer (some ⟨g, i * 18 + 9, none⟩)) (rfl : _ = some (Oper.mk _ _ _ _ _ _)) (by kernel_rfl) (by kernel_rfl) (by kernel_rfl) (fun _ _ _ h => h) (Or.inl ⟨by rfl, fun W hW => ?_⟩) (by assumption) ?_
  · first | (go_simp; done) | (have hc := (NC'.out W hW).2.2; go_simp; done) | (have hc := (NC'.out W hW).2.2; simp [execOp, hc]; done)
  try simp only [Act.put, List.setIfInBounds_toArray, List.set_cons_zero, List.set_cons_succ]
  refine wpAnyH_take (i := 9) (v := .int .i64 p) (rfl : _ = some (Oper.mk _ _ _ _ _ _)) (by kernel_rfl) (by kernel_rfl) (by kernel_rfl) (fun _ _ _ h => h) (Or.inl ⟨by rfl, fun W hW => ?_⟩) (by assumption) ?_
  · first | (go_simp; done) | (have hc := (NC'.out W hW).2.2; go_simp; done) | (have hc := (NC'.out W hW).2.2; simp [execOp, hc]; done)
  try simp only [Act.put, List.setIfInBounds_toArray, List.set_cons_zero, List.set_cons_succ]
  refine wpAnyH_take (i := 10) (v := .pointer (some ⟨g, p * 18, none⟩)) (rfl : _ = some (Oper.mk _ _ _ _ _ _)) (by kernel_rfl) (by kernel_rfl) (by kernel_rfl) (fun _ _ _ h => h) (Or.inl ⟨by rfl, fun W hW => ?_⟩) (by assumption) ?_
  · first | (go_simp; done) | (have hc := (NC'.out W hW).2.2; go_simp; done) | (have hc := (NC'.out W hW).2.2; simp [execOp, hc]; done)
  try simp only [Act.put, List.setIfInBounds_toArray, List.set_cons_zero, List.set_cons_succ]
  refine wpAnyH_take (i := 11) (rfl : _ = some (Oper.mk _ _ _ _ _ _)) (by kernel_rfl) (by kernel_rfl) (by kernel_rfl) (fun _ _ _ h => h) (yieldsIf_load_mid (by rfl) 64 _ rfl g (p * 18) rfl xs[p].cells _ (fun W hW => by first | exact (NC'.out W hW).1 | exact (NC'.out W hW).2.1) u64.choose_spec.1 u64.choose_spec.2 info64) (by assumption) ?_
  try simp only [Act.put, List.setIfInBounds_toArray, List.set_cons_zero, List.set_cons_succ]
  refine wpAnyH_ready (rs := [12, 13]) (by kernel_rfl) (by simp) ?_
  refine AllReadyH.cons (rfl : _ = some (Oper.mk _ _ _ _ _ _)) (fun K hK => ?_) (AllReadyH.cons (rfl : _ = some (Oper.mk _ _ _ _ _ _)) (fun K hK => ?_) AllReadyH.nil)
  focus
    skip
    rw [if_pos (by rfl)]
    go_simp
    refine hK.out _ _ (by repeat (first | refine below_setRow ?_ (by simp; try omega) _ | refine Below.drew ?_ | refine Below.alloc ?_ (by simp; try omega) _ | exact Below.refl _ _)) (fun hHeld' => ?_)
    clear hK K hHeld
    have hHeld := hHeld'
    clear hHeld'
    try simp only [Act.put, List.setIfInBounds_toArray, List.set_cons_zero, List.set_cons_succ]
    refine wpAnyH_ready (rs := [13]) (by kernel_rfl) (by simp) ?_
    refine AllReadyH.cons (rfl : _ = some (Oper.mk _ _ _ _ _ _)) (fun K hK => ?_) AllReadyH.nil
    rw [if_pos (by rfl)]
    go_simp
    refine hK.out _ _ (by repeat (first | refine below_setRow ?_ (by simp; try omega) _ | refine Below.drew ?_ | refine Below.alloc ?_ (by simp; try omega) _ | exact Below.refl _ _)) (fun hHeld' => ?_)
    clear hK K hHeld
    have hHeld := hHeld'
    clear hHeld'
    try simp only [Act.put, List.setIfInBounds_toArray, List.set_cons_zero, List.set_cons_succ]
    refine wpAnyH_ready (rs := [14]) (by kernel_rfl) (by simp) ?_
    refine AllReadyH.cons (rfl : _ = some (Oper.mk _ _ _ _ _ _)) (fun K hK => ?_) AllReadyH.nil
    rw [if_pos (by rfl)]
    refine wp_store_row 64 _ _ rfl _ xs[i].cells.toArray rfl rfl 64 _ (alloc_at1 (by simp)) (by exact info64) (by rfl) (by rw [← Array.all_toList]; rfl) ?_
    refine hK.out _ _ (by exact below_setRow hHeld (by omega) _) (fun hHeld' => ?_)
    clear hK K hHeld
    have hHeld := hHeld'
    clear hHeld'
    try simp only [Act.put, List.setIfInBounds_toArray, List.set_cons_zero, List.set_cons_succ]
    refine wpAnyH_ready (rs := [15]) (by kernel_rfl) (by simp) ?_
    refine AllReadyH.cons (rfl : _ = some (Oper.mk _ _ _ _ _ _)) (fun K hK => ?_) AllReadyH.nil
    rw [if_pos (by rfl)]
    refine wp_store_row 64 _ _ rfl _ xs[p].cells.toArray rfl rfl 64 _ (setRow_at (alloc_at2 (by simp)) (by simp)) (by exact info64) (by rfl) (by rw [← Array.all_toList]; rfl) ?_
    refine hK.out _ _ (by exact below_setRow hHeld (by omega) _) (fun hHeld' => ?_)
    clear hK K hHeld
    have hHeld := hHeld'
    clear hHeld'
    try simp only [Act.put, List.setIfInBounds_toArray, List.set_cons_zero, List.set_cons_succ]
    refine wpAnyH_done (by kernel_rfl) ?_ _
    rw [two_rowsD (n := w.heap.size + 1 + 1) (by simp)]
    have HA := afterRows w area xs[i].cells.toArray xs[p].cells.toArray
    revert HA
    generalize hWr : ((((w.alloc (.cells #[.int .u32 area] 35)).alloc (.cells #[.slice none 0 0] 27)).alloc (.cells xs[i].cells.toArray 64)).alloc (.cells xs[p].cells.toArray 64)).drew = Wr
    rintro ⟨hWs, hWb, hr12, hr13, hWV⟩
    clear hWr hHeld
    generalize hb13e : w.heap.size + 1 + 1 + 1 = b13 at hr13 ⊢
    generalize hb12e : w.heap.size + 1 + 1 = b12 at hr12 ⊢
    generalize hVe : w.heap.size + 1 = V at hWV ⊢
    have RW := Rows.of hr12 hr13 hWb hWs hVe.symm (by omega) (by omega)
  rotate_left
  focus
    skip
    rw [if_pos (by rfl)]
    go_simp
    refine hK.out _ _ (by repeat (first | refine below_setRow ?_ (by simp; try omega) _ | refine Below.drew ?_ | refine Below.alloc ?_ (by simp; try omega) _ | exact Below.refl _ _)) (fun hHeld' => ?_)
    clear hK K hHeld
    have hHeld := hHeld'
    clear hHeld'
    try simp only [Act.put, List.setIfInBounds_toArray, List.set_cons_zero, List.set_cons_succ]
    refine wpAnyH_ready (rs := [12]) (by kernel_rfl) (by simp) ?_
    refine AllReadyH.cons (rfl : _ = some (Oper.mk _ _ _ _ _ _)) (fun K hK => ?_) AllReadyH.nil
    rw [if_pos (by rfl)]
    go_simp
    refine hK.out _ _ (by repeat (first | refine below_setRow ?_ (by simp; try omega) _ | refine Below.drew ?_ | refine Below.alloc ?_ (by simp; try omega) _ | exact Below.refl _ _)) (fun hHeld' => ?_)
    clear hK K hHeld
    have hHeld := hHeld'
    clear hHeld'
    try simp only [Act.put, List.setIfInBounds_toArray, List.set_cons_zero, List.set_cons_succ]
    refine wpAnyH_ready (rs := [14]) (by kernel_rfl) (by simp) ?_
    refine AllReadyH.cons (rfl : _ = some (Oper.mk _ _ _ _ _ _)) (fun K hK => ?_) AllReadyH.nil
    rw [if_pos (by rfl)]
    refine wp_store_row 64 _ _ rfl _ xs[i].cells.toArray rfl rfl 64 _ (alloc_at2 (by simp)) (by exact info64) (by rfl) (by rw [← Array.all_toList]; rfl) ?_
    refine hK.out _ _ (by exact below_setRow hHeld (by omega) _) (fun hHeld' => ?_)
    clear hK K hHeld
    have hHeld := hHeld'
    clear hHeld'
    try simp only [Act.put, List.setIfInBounds_toArray, List.set_cons_zero, List.set_cons_succ]
    refine wpAnyH_ready (rs := [15]) (by kernel_rfl) (by simp) ?_
    refine AllReadyH.cons (rfl : _ = some (Oper.mk _ _ _ _ _ _)) (fun K hK => ?_) AllReadyH.nil
    rw [if_pos (by rfl)]
    refine wp_store_row 64 _ _ rfl _ xs[p].cells.toArray rfl rfl 64 _ (setRow_at (alloc_at1 (by simp)) (by simp)) (by exact info64) (by rfl) (by rw [← Array.all_toList]; rfl) ?_
    refine hK.out _ _ (by exact below_setRow hHeld (by omega) _) (fun hHeld' => ?_)
    clear hK K hHeld
    have hHeld := hHeld'
    clear hHeld'
    try simp only [Act.put, List.setIfInBounds_toArray, List.set_cons_zero, List.set_cons_succ]
    refine wpAnyH_done (by kernel_rfl) ?_ _
    rw [two_rowsD' (n := w.heap.size + 1 + 1) (by simp)]
    have HA := afterRows w area xs[p].cells.toArray xs[i].cells.toArray
    revert HA
    generalize hWr : ((((w.alloc (.cells #[.int .u32 area] 35)).alloc (.cells #[.slice none 0 0] 27)).alloc (.cells xs[p].cells.toArray 64)).alloc (.cells xs[i].cells.toArray 64)).drew = Wr
    rintro ⟨hWs, hWb, hr13, hr12, hWV⟩
    clear hWr hHeld
    generalize hb13e : w.heap.size + 1 + 1 + 1 = b12 at hr12 ⊢
    generalize hb12e : w.heap.size + 1 + 1 = b13 at hr13 ⊢
    generalize hVe : w.heap.size + 1 = V at hWV ⊢
    have RW := Rows.of hr12 hr13 hWb hWs hVe.symm (by omega) (by omega)
  all_goals
    have RW' := Lib.hid RW
    have hVR : V < Wr.heap.size := by omega
    have hb12l : b12 < Wr.heap.size := by omega
    have hb13l : b13 < Wr.heap.size := by omega
    have hVw : w.heap.size ≤ V := by omega
    have hBd : Below Wr.heap.size Wr ((Wr.alloc (.cells #[] 5)).alloc (.cells #[] 5)) := ((Below.refl _ _).alloc (Nat.le_refl _) _).alloc (by simp) _
    have F1 := RW _ (KeptX.of hBd)
    have f11 := F1.at1 11 _ rfl
    have f12 := F1.at1 12 _ rfl
    have f7 := F1.at1 7 _ rfl
    have O0 : ∀ W : World, Below Wr.heap.size Wr W → OR W Wr.heap.size V none 0 [] 0 := fun W hW => ⟨by rw [hW.block V hVR]; exact hWV, Own.nil _ _, rfl, hVR, hW.size⟩
    have O0' := Lib.hid O0
    have hBd' := Lib.hid hBd
    clear RW hr12 hr13 F1 hWs hb13e hb12e hVe O0 hWV hBd
    obtain ⟨htl, htu⟩ := ht i hi
    have hxe := hex i hi
    have hxz := hsz i hi
    obtain ⟨ptl, ptu⟩ := ht p hp
    have pxe := hex p hp
    have pxz := hsz p hp
    have HQ1 := Lib.hid (show (isoRec [0] xs[i].extent xs[i].size xs[i].f.time true []).length = 34 by rw [isoRec_length]; rfl)
    have HQ2 := Lib.hid (show (isoRec [1] xs[p].extent xs[p].size xs[p].f.time true []).length = 34 by rw [isoRec_length]; rfl)
    go_wp2_with (first
      | (go_at_call 53; refine (add_any V Wr.heap.size u2.heap.size n2 34 c2 cy3 A2 A3 _ (isoRec [1] xs[p].extent xs[p].size xs[p].f.time true []) u3 (hO2.later hb3) HQ2.out hO3 (fun k hk => (World.ownsRow.lt hO2.own k hk).2) (Nat.lt_of_lt_of_le hVR hO2.le) (by decide) (by omega)).mono ?_; rintro e u4 ⟨A4, c4, n4, rfl, hO4, hn4, hk4⟩; have K4 := (K2.trans (KeptX.of (hb3.mono hO2.le))).trans hk4; have F4 := RW'.out _ K4; have f10 := F4.at1 10 _ rfl)
      | (go_at_call 56; refine (isoRecord_any ⟨#[1]⟩ xs[p].extent xs[p].size xs[p].f.time true (.slice (some ⟨Wr.heap.size + 1, 0, none⟩) 0 0) [] u2 (by decide) pxe pxz ptl ptu (by decide) ⟨_, _, rfl, (by intro ad e; cases e; exact hs2), (by intro j u hu; simp [BVs] at hu)⟩).mono ?_; rintro e u3 ⟨⟨v3, rfl, hO3⟩, hb3⟩; obtain ⟨A3, cy3, rfl, hA3, _⟩ := hO3.shape; rw [show (isoRec (⟨#[1]⟩ : ByteArray).data.toList xs[p].extent xs[p].size xs[p].f.time true []).length = 34 from HQ2.out] at hO3 ⊢)
      | (go_at_call 53; refine (add_any V Wr.heap.size _ 0 34 0 cy1 none A1 [] (isoRec [0] xs[i].extent xs[i].size xs[i].f.time true []) u1 (O0'.out u1 hbu1) HQ1.out hO1 (by intro k hk; cases hk) hVM1 (by decide) (by decide)).mono ?_; rintro e u2 ⟨A2, c2, n2, rfl, hO2, hn2, hk2⟩; have K2 := (KeptX.of hbu1).trans hk2; have F2 := RW'.out _ K2; have g11 := F2.at2 11 _ rfl; have g12 := F2.at2 12 _ rfl; have g7 := F2.at2 7 _ rfl; have hs2 : Wr.heap.size + 1 < u2.heap.size := by (have h1 := hb1.size; have h2 := hk2.size; simp at h1; omega))
      | (go_at_call 56; refine (isoRecord_any ⟨#[0]⟩ xs[i].extent xs[i].size xs[i].f.time true (.slice (some ⟨Wr.heap.size, 0, none⟩) 0 0) [] _ (by decide) hxe hxz htl htu (by decide) ⟨_, _, rfl, (by intro ad e; cases e; simp; omega), (by intro j u hu; simp [BVs] at hu)⟩).mono ?_; rintro e u1 ⟨⟨v1, rfl, hO1⟩, hb1⟩; obtain ⟨A1, cy1, rfl, hA1, _⟩ := hO1.shape; rw [show (isoRec (⟨#[0]⟩ : ByteArray).data.toList xs[i].extent xs[i].size xs[i].f.time true []).length = 34 from HQ1.out] at hO1 ⊢; have hbu1 := hBd'.out.trans (hb1.mono (by simp; try omega)); have hVM1 : V < ((Wr.alloc (.cells #[] 5)).alloc (.cells #[] 5)).heap.size := by simp; omega))
    have RL : Hid (addRec (addRec [] (isoRec [0] xs[i].extent xs[i].size xs[i].f.time true [])) (isoRec [1] xs[p].extent xs[p].size xs[p].f.time true []) = (rows0 xs i p 0).foldl addRec []) := by unfold Hid rows0; rw [nodeAt_ns xs i hi, nodeAt_ns xs p hp]; rfl
    clear g11 g12 g7 f11 f12 f7 F2 F4 hO1 hO3 hb1 hb3 hk2 hk4 hbu1 f10 K2
    go_loopw [17, 91] (fun _ jv wr => ∃ (j n' c' : Nat) (A' : Option Addr) (l : List UInt8), j ≤ xs[i].kids.length ∧ jv = .int .i64 j ∧ OR wr Wr.heap.size V A' c' l n' ∧ KeptX Wr.heap.size V Wr wr ∧ n' ≤ 8192 + j * 4096 ∧ Hid (l = (rows0 xs i p j).foldl addRec [])) (fun _ jv _ => xs[i].kids.length - (intOf jv).toNat)
    case atStart => exact ⟨0, n4, c4, A4, _, by omega, rfl, hO4, K4, by omega, RL.out⟩
    case round =>
      clear hO2 hO4 hn2 hn4 K4 RL
      obtain ⟨j, n', c', A', l, hj, rfl, hO, hK, hn, hl'⟩ := hrel
      by_cases hlt : j < xs[i].kids.length
      · obtain ⟨gk, hka, hkc, hgk⟩ := HN.out.kid i hi j hlt
        obtain ⟨k, hkk⟩ : ∃ k, xs[i].kids.getD j 0 = k := ⟨_, rfl⟩
        have hkl2 : k < xs.length := by rw [← hkk]; exact hk _ (getD_mem hlt)
        rw [hkk] at hkc
        have ckd : wr.cell? ⟨gk, j, none⟩ = some (.int .i64 k) := by rw [(RW'.out wr hK).below.cell (p := ⟨gk, j, none⟩) hgk]; exact hkc
        have HKK := Lib.hid hkk; have HO := Lib.hid hO; have HKX := Lib.hid hK
        clear hkk hkc hO hK
        rw [hka]
        go_wp2_with (fail)
        have NK : ∀ W : World, KeptX Wr.heap.size V Wr W → W.rangeAt g (k * 18) xs[k].cells ∧ W.cell? ⟨g, k * 18 + 8, none⟩ = some (.string xs[k].id) ∧ W.cell? ⟨g, k * 18 + 11, none⟩ = some (.int .u32 xs[k].extent) ∧ W.cell? ⟨g, k * 18 + 12, none⟩ = some (.int .u32 xs[k].size) ∧ W.cell? ⟨g, k * 18 + 7, none⟩ = some (.int .i64 xs[k].f.time) ∧ W.cell? ⟨g, k * 18 + 1, none⟩ = some (.bool xs[k].f.dir) := by
          intro W hW
          have h := rangeAt_keep (HN.out.range k hkl2) (RW'.out W hW).below hg
          exact ⟨h, h 8 _ rfl, h 11 _ rfl, h 12 _ rfl, h 7 _ rfl, h 1 _ rfl⟩
        have NK' := Lib.hid NK
        clear NK
        refine wp_region_held_drew (S := fun W => KeptX Wr.heap.size V Wr W) (by kernel_rfl) (HKX.out.trans (KeptX.of (Below.refl _ _).drew)) (fun hHeld => ?_)
        refine wpAnyH_take (i := 0) (v := .func (.func 53) #[] #[.pointer (some ⟨V, 0, none⟩)]) (rfl : _ = some (Oper.mk _ _ _ _ _ _)) (by kernel_rfl) (by kernel_rfl) (by kernel_rfl) (fun _ _ _ h => h) (Or.inl ⟨by rfl, fun W hW => ?_⟩) (by assumption) ?_
        · first | (go_simp; done) | (obtain ⟨hr, c8, c11, c12, c7, c1⟩ := NK'.out W hW; simp [execOp, *]; done)
        try simp only [Act.put, List.setIfInBounds_toArray, List.set_cons_zero, List.set_cons_succ]
        refine wpAnyH_take (i := 1) (v := .slice (some ⟨g, 0, none⟩) xs.length c) (rfl : _ = some (Oper.mk _ _ _ _ _ _)) (by kernel_rfl) (by kernel_rfl) (by kernel_rfl) (fun _ _ _ h => h) (Or.inl ⟨by rfl, fun W hW => ?_⟩) (by assumption) ?_
        · first | (go_simp; done) | (obtain ⟨hr, c8, c11, c12, c7, c1⟩ := NK'.out W hW; simp [execOp, *]; done)
        try simp only [Act.put, List.setIfInBounds_toArray, List.set_cons_zero, List.set_cons_succ]
        refine wpAnyH_take (i := 2) (v := .int .i64 k) (rfl : _ = some (Oper.mk _ _ _ _ _ _)) (by kernel_rfl) (by kernel_rfl) (by kernel_rfl) (fun _ _ _ h => h) (Or.inl ⟨by rfl, fun W hW => ?_⟩) (by assumption) ?_
        · first | (go_simp; done) | (obtain ⟨hr, c8, c11, c12, c7, c1⟩ := NK'.out W hW; simp [execOp, *]; done)
        try simp only [Act.put, List.setIfInBounds_toArray, List.set_cons_zero, List.set_cons_succ]
        refine wpAnyH_take (i := 3) (v := .pointer (some ⟨g, k * 18, none⟩)) (rfl : _ = some (Oper.mk _ _ _ _ _ _)) (by kernel_rfl) (by kernel_rfl) (by kernel_rfl) (fun _ _ _ h => h) (Or.inl ⟨by rfl, fun W hW => ?_⟩) (by assumption) ?_
        · first | (go_simp; done) | (obtain ⟨hr, c8, c11, c12, c7, c1⟩ := NK'.out W hW; simp [execOp, *]; done)
        try simp only [Act.put, List.setIfInBounds_toArray, List.set_cons_zero, List.set_cons_succ]
        refine wpAnyH_take (i := 4) (v := .pointer (some ⟨g, k * 18 + 8, none⟩)) (rfl : _ = some (Oper.mk _ _ _ _ _ _)) (by kernel_rfl) (by kernel_rfl) (by kernel_rfl) (fun _ _ _ h => h) (Or.inl ⟨by rfl, fun W hW => ?_⟩) (by assumption) ?_
        · first | (go_simp; done) | (obtain ⟨hr, c8, c11, c12, c7, c1⟩ := NK'.out W hW; simp [execOp, *]; done)
        try simp only [Act.put, List.setIfInBounds_toArray, List.set_cons_zero, List.set_cons_succ]
        refine wpAnyH_take (i := 5) (v := .string xs[k].id) (rfl : _ = some (Oper.mk _ _ _ _ _ _)) (by kernel_rfl) (by kernel_rfl) (by kernel_rfl) (fun _ _ _ h => h) (Or.inl ⟨by rfl, fun W hW => ?_⟩) (by assumption) ?_
        · first | (obtain ⟨hr, c8, c11, c12, c7, c1⟩ := NK'.out W hW; go_simp; done) | (obtain ⟨hr, c8, c11, c12, c7, c1⟩ := NK'.out W hW; simp [execOp, *]; done)
        try simp only [Act.put, List.setIfInBounds_toArray, List.set_cons_zero, List.set_cons_succ]
        refine wpAnyH_take (i := 6) (v := .slice (some ⟨g, 0, none⟩) xs.length c) (rfl : _ = some (Oper.mk _ _ _ _ _ _)) (by kernel_rfl) (by kernel_rfl) (by kernel_rfl) (fun _ _ _ h => h) (Or.inl ⟨by rfl, fun W hW => ?_⟩) (by assumption) ?_
        · first | (go_simp; done) | (obtain ⟨hr, c8, c11, c12, c7, c1⟩ := NK'.out W hW; simp [execOp, *]; done)
        try simp only [Act.put, List.setIfInBounds_toArray, List.set_cons_zero, List.set_cons_succ]
        refine wpAnyH_take (i := 7) (v := .int .i64 k) (rfl : _ = some (Oper.mk _ _ _ _ _ _)) (by kernel_rfl) (by kernel_rfl) (by kernel_rfl) (fun _ _ _ h => h) (Or.inl ⟨by rfl, fun W hW => ?_⟩) (by assumption) ?_
        · first | (go_simp; done) | (obtain ⟨hr, c8, c11, c12, c7, c1⟩ := NK'.out W hW; simp [execOp, *]; done)
        try simp only [Act.put, List.setIfInBounds_toArray, List.set_cons_zero, List.set_cons_succ]
        refine wpAnyH_take (i := 8) (v := .pointer (some ⟨g, k * 18, none⟩)) (rfl : _ = some (Oper.mk _ _ _ _ _ _)) (by kernel_rfl) (by kernel_rfl) (by kernel_rfl) (fun _ _ _ h => h) (Or.inl ⟨by rfl, fun W hW => ?_⟩) (by assumption) ?_
        · first | (go_simp; done) | (obtain ⟨hr, c8, c11, c12, c7, c1⟩ := NK'.out W hW; simp [execOp, *]; done)
        try simp only [Act.put, List.setIfInBounds_toArray, List.set_cons_zero, List.set_cons_succ]
        refine wpAnyH_take (i := 9) (v := .pointer (some ⟨g, k * 18 + 11, none⟩)) (rfl : _ = some (Oper.mk _ _ _ _ _ _)) (by kernel_rfl) (by kernel_rfl) (by kernel_rfl) (fun _ _ _ h => h) (Or.inl ⟨by rfl, fun W hW => ?_⟩) (by assumption) ?_
        · first | (go_simp; done) | (obtain ⟨hr, c8, c11, c12, c7, c1⟩ := NK'.out W hW; simp [execOp, *]; done)
        try simp only [Act.put, List.setIfInBounds_toArray, List.set_cons_zero, List.set_cons_succ]
        refine wpAnyH_take (i := 10) (v := .int .u32 xs[k].extent) (rfl : _ = some (Oper.mk _ _ _ _ _ _)) (by kernel_rfl) (by kernel_rfl) (by kernel_rfl) (fun _ _ _ h => h) (Or.inl ⟨by rfl, fun W hW => ?_⟩) (by assumption) ?_
        · first | (obtain ⟨hr, c8, c11, c12, c7, c1⟩ := NK'.out W hW; go_simp; done) | (obtain ⟨hr, c8, c11, c12, c7, c1⟩ := NK'.out W hW; simp [execOp, *]; done)
        try simp only [Act.put, List.setIfInBounds_toArray, List.set_cons_zero, List.set_cons_succ]
        refine wpAnyH_take (i := 11) (v := .slice (some ⟨g, 0, none⟩) xs.length c) (rfl : _ = some (Oper.mk _ _ _ _ _ _)) (by kernel_rfl) (by kernel_rfl) (by kernel_rfl) (fun _ _ _ h => h) (Or.inl ⟨by rfl, fun W hW => ?_⟩) (by assumption) ?_
        · first | (go_simp; done) | (obtain ⟨hr, c8, c11, c12, c7, c1⟩ := NK'.out W hW; simp [execOp, *]; done)
        try simp only [Act.put, List.setIfInBounds_toArray, List.set_cons_zero, List.set_cons_succ]
        refine wpAnyH_take (i := 12) (v := .int .i64 k) (rfl : _ = some (Oper.mk _ _ _ _ _ _)) (by kernel_rfl) (by kernel_rfl) (by kernel_rfl) (fun _ _ _ h => h) (Or.inl ⟨by rfl, fun W hW => ?_⟩) (by assumption) ?_
        · first | (go_simp; done) | (obtain ⟨hr, c8, c11, c12, c7, c1⟩ := NK'.out W hW; simp [execOp, *]; done)
        try simp only [Act.put, List.setIfInBounds_toArray, List.set_cons_zero, List.set_cons_succ]
        refine wpAnyH_take (i := 13) (v := .pointer (some ⟨g, k * 18, none⟩)) (rfl : _ = some (Oper.mk _ _ _ _ _ _)) (by kernel_rfl) (by kernel_rfl) (by kernel_rfl) (fun _ _ _ h => h) (Or.inl ⟨by rfl, fun W hW => ?_⟩) (by assumption) ?_
        · first | (go_simp; done) | (obtain ⟨hr, c8, c11, c12, c7, c1⟩ := NK'.out W hW; simp [execOp, *]; done)
        try simp only [Act.put, List.setIfInBounds_toArray, List.set_cons_zero, List.set_cons_succ]
        refine wpAnyH_take (i := 14) (v := .pointer (some ⟨g, k * 18 + 12, none⟩)) (rfl : _ = some (Oper.mk _ _ _ _ _ _)) (by kernel_rfl) (by kernel_rfl) (by kernel_rfl) (fun _ _ _ h => h) (Or.inl ⟨by rfl, fun W hW => ?_⟩) (by assumption) ?_
        · first | (go_simp; done) | (obtain ⟨hr, c8, c11, c12, c7, c1⟩ := NK'.out W hW; simp [execOp, *]; done)
        try simp only [Act.put, List.setIfInBounds_toArray, List.set_cons_zero, List.set_cons_succ]
        refine wpAnyH_take (i := 15) (v := .int .u32 xs[k].size) (rfl : _ = some (Oper.mk _ _ _ _ _ _)) (by kernel_rfl) (by kernel_rfl) (by kernel_rfl) (fun _ _ _ h => h) (Or.inl ⟨by rfl, fun W hW => ?_⟩) (by assumption) ?_
        · first | (obtain ⟨hr, c8, c11, c12, c7, c1⟩ := NK'.out W hW; go_simp; done) | (obtain ⟨hr, c8, c11, c12, c7, c1⟩ := NK'.out W hW; simp [execOp, *]; done)
        try simp only [Act.put, List.setIfInBounds_toArray, List.set_cons_zero, List.set_cons_succ]
        refine wpAnyH_take (i := 16) (v := .slice (some ⟨g, 0, none⟩) xs.length c) (rfl : _ = some (Oper.mk _ _ _ _ _ _)) (by kernel_rfl) (by kernel_rfl) (by kernel_rfl) (fun _ _ _ h => h) (Or.inl ⟨by rfl, fun W hW => ?_⟩) (by assumption) ?_
        · first | (go_simp; done) | (obtain ⟨hr, c8, c11, c12, c7, c1⟩ := NK'.out W hW; simp [execOp, *]; done)
        try simp only [Act.put, List.setIfInBounds_toArray, List.set_cons_zero, List.set_cons_succ]
        refine wpAnyH_take (i := 17) (v := .int .i64 k) (rfl : _ = some (Oper.mk _ _ _ _ _ _)) (by kernel_rfl) (by kernel_rfl) (by kernel_rfl) (fun _ _ _ h => h) (Or.inl ⟨by rfl, fun W hW => ?_⟩) (by assumption) ?_
        · first | (go_simp; done) | (obtain ⟨hr, c8, c11, c12, c7, c1⟩ := NK'.out W hW; simp [execOp, *]; done)
        try simp only [Act.put, List.setIfInBounds_toArray, List.set_cons_zero, List.set_cons_succ]
        refine wpAnyH_take (i := 18) (v := .pointer (some ⟨g, k * 18, none⟩)) (rfl : _ = some (Oper.mk _ _ _ _ _ _)) (by kernel_rfl) (by kernel_rfl) (by kernel_rfl) (fun _ _ _ h => h) (Or.inl ⟨by rfl, fun W hW => ?_⟩) (by assumption) ?_
        · first | (go_simp; done) | (obtain ⟨hr, c8, c11, c12, c7, c1⟩ := NK'.out W hW; simp [execOp, *]; done)
        try simp only [Act.put, List.setIfInBounds_toArray, List.set_cons_zero, List.set_cons_succ]
        refine wpAnyH_take (i := 19) (v := .pointer (some ⟨g, k * 18, none⟩)) (rfl : _ = some (Oper.mk _ _ _ _ _ _)) (by kernel_rfl) (by kernel_rfl) (by kernel_rfl) (fun _ _ _ h => h) (Or.inl ⟨by rfl, fun W hW => ?_⟩) (by assumption) ?_
        · first | (go_simp; done) | (obtain ⟨hr, c8, c11, c12, c7, c1⟩ := NK'.out W hW; simp [execOp, *]; done)
        try simp only [Act.put, List.setIfInBounds_toArray, List.set_cons_zero, List.set_cons_succ]
        refine wpAnyH_take (i := 20) (v := .pointer (some ⟨g, k * 18 + 7, none⟩)) (rfl : _ = some (Oper.mk _ _ _ _ _ _)) (by kernel_rfl) (by kernel_rfl) (by kernel_rfl) (fun _ _ _ h => h) (Or.inl ⟨by rfl, fun W hW => ?_⟩) (by assumption) ?_
        · first | (go_simp; done) | (obtain ⟨hr, c8, c11, c12, c7, c1⟩ := NK'.out W hW; simp [execOp, *]; done)
        try simp only [Act.put, List.setIfInBounds_toArray, List.set_cons_zero, List.set_cons_succ]
        refine wpAnyH_take (i := 21) (v := .int .i64 xs[k].f.time) (rfl : _ = some (Oper.mk _ _ _ _ _ _)) (by kernel_rfl) (by kernel_rfl) (by kernel_rfl) (fun _ _ _ h => h) (Or.inl ⟨by rfl, fun W hW => ?_⟩) (by assumption) ?_
        · first | (obtain ⟨hr, c8, c11, c12, c7, c1⟩ := NK'.out W hW; go_simp; done) | (obtain ⟨hr, c8, c11, c12, c7, c1⟩ := NK'.out W hW; simp [execOp, *]; done)
        try simp only [Act.put, List.setIfInBounds_toArray, List.set_cons_zero, List.set_cons_succ]
        refine wpAnyH_take (i := 22) (v := .slice (some ⟨g, 0, none⟩) xs.length c) (rfl : _ = some (Oper.mk _ _ _ _ _ _)) (by kernel_rfl) (by kernel_rfl) (by kernel_rfl) (fun _ _ _ h => h) (Or.inl ⟨by rfl, fun W hW => ?_⟩) (by assumption) ?_
        · first | (go_simp; done) | (obtain ⟨hr, c8, c11, c12, c7, c1⟩ := NK'.out W hW; simp [execOp, *]; done)
        try simp only [Act.put, List.setIfInBounds_toArray, List.set_cons_zero, List.set_cons_succ]
        refine wpAnyH_take (i := 23) (v := .int .i64 k) (rfl : _ = some (Oper.mk _ _ _ _ _ _)) (by kernel_rfl) (by kernel_rfl) (by kernel_rfl) (fun _ _ _ h => h) (Or.inl ⟨by rfl, fun W hW => ?_⟩) (by assumption) ?_
        · first | (go_simp; done) | (obtain ⟨hr, c8, c11, c12, c7, c1⟩ := NK'.out W hW; simp [execOp, *]; done)
        try simp only [Act.put, List.setIfInBounds_toArray, List.set_cons_zero, List.set_cons_succ]
        refine wpAnyH_take (i := 24) (v := .pointer (some ⟨g, k * 18, none⟩)) (rfl : _ = some (Oper.mk _ _ _ _ _ _)) (by kernel_rfl) (by kernel_rfl) (by kernel_rfl) (fun _ _ _ h => h) (Or.inl ⟨by rfl, fun W hW => ?_⟩) (by assumption) ?_
        · first | (go_simp; done) | (obtain ⟨hr, c8, c11, c12, c7, c1⟩ := NK'.out W hW; simp [execOp, *]; done)
        try simp only [Act.put, List.setIfInBounds_toArray, List.set_cons_zero, List.set_cons_succ]
        refine wpAnyH_take (i := 25) (v := .pointer (some ⟨g, k * 18, none⟩)) (rfl : _ = some (Oper.mk _ _ _ _ _ _)) (by kernel_rfl) (by kernel_rfl) (by kernel_rfl) (fun _ _ _ h => h) (Or.inl ⟨by rfl, fun W hW => ?_⟩) (by assumption) ?_
        · first | (go_simp; done) | (obtain ⟨hr, c8, c11, c12, c7, c1⟩ := NK'.out W hW; simp [execOp, *]; done)
        try simp only [Act.put, List.setIfInBounds_toArray, List.set_cons_zero, List.set_cons_succ]
        refine wpAnyH_take (i := 26) (v := .pointer (some ⟨g, k * 18 + 1, none⟩)) (rfl : _ = some (Oper.mk _ _ _ _ _ _)) (by kernel_rfl) (by kernel_rfl) (by kernel_rfl) (fun _ _ _ h => h) (Or.inl ⟨by rfl, fun W hW => ?_⟩) (by assumption) ?_
        · first | (go_simp; done) | (obtain ⟨hr, c8, c11, c12, c7, c1⟩ := NK'.out W hW; simp [execOp, *]; done)
        try simp only [Act.put, List.setIfInBounds_toArray, List.set_cons_zero, List.set_cons_succ]
        refine wpAnyH_take (i := 27) (v := .bool xs[k].f.dir) (rfl : _ = some (Oper.mk _ _ _ _ _ _)) (by kernel_rfl) (by kernel_rfl) (by kernel_rfl) (fun _ _ _ h => h) (Or.inl ⟨by rfl, fun W hW => ?_⟩) (by assumption) ?_
        · first | (obtain ⟨hr, c8, c11, c12, c7, c1⟩ := NK'.out W hW; go_simp; done) | (obtain ⟨hr, c8, c11, c12, c7, c1⟩ := NK'.out W hW; simp [execOp, *]; done)
        try simp only [Act.put, List.setIfInBounds_toArray, List.set_cons_zero, List.set_cons_succ]
        refine wpAnyH_take (i := 28) (v := .func (.func 54) #[] #[.pointer (some ⟨w.heap.size, 0, none⟩)]) (rfl : _ = some (Oper.mk _ _ _ _ _ _)) (by kernel_rfl) (by kernel_rfl) (by kernel_rfl) (fun _ _ _ h => h) (Or.inl ⟨by rfl, fun W hW => ?_⟩) (by assumption) ?_
        · first | (go_simp; done) | (obtain ⟨hr, c8, c11, c12, c7, c1⟩ := NK'.out W hW; simp [execOp, *]; done)
        try simp only [Act.put, List.setIfInBounds_toArray, List.set_cons_zero, List.set_cons_succ]
        refine wpAnyH_take (i := 29) (v := .slice (some ⟨g, 0, none⟩) xs.length c) (rfl : _ = some (Oper.mk _ _ _ _ _ _)) (by kernel_rfl) (by kernel_rfl) (by kernel_rfl) (fun _ _ _ h => h) (Or.inl ⟨by rfl, fun W hW => ?_⟩) (by assumption) ?_
        · first | (go_simp; done) | (obtain ⟨hr, c8, c11, c12, c7, c1⟩ := NK'.out W hW; simp [execOp, *]; done)
        try simp only [Act.put, List.setIfInBounds_toArray, List.set_cons_zero, List.set_cons_succ]
        refine wpAnyH_take (i := 30) (v := .int .i64 k) (rfl : _ = some (Oper.mk _ _ _ _ _ _)) (by kernel_rfl) (by kernel_rfl) (by kernel_rfl) (fun _ _ _ h => h) (Or.inl ⟨by rfl, fun W hW => ?_⟩) (by assumption) ?_
        · first | (go_simp; done) | (obtain ⟨hr, c8, c11, c12, c7, c1⟩ := NK'.out W hW; simp [execOp, *]; done)
        try simp only [Act.put, List.setIfInBounds_toArray, List.set_cons_zero, List.set_cons_succ]
        refine wpAnyH_take (i := 31) (v := .pointer (some ⟨g, k * 18, none⟩)) (rfl : _ = some (Oper.mk _ _ _ _ _ _)) (by kernel_rfl) (by kernel_rfl) (by kernel_rfl) (fun _ _ _ h => h) (Or.inl ⟨by rfl, fun W hW => ?_⟩) (by assumption) ?_
        · first | (go_simp; done) | (obtain ⟨hr, c8, c11, c12, c7, c1⟩ := NK'.out W hW; simp [execOp, *]; done)
        try simp only [Act.put, List.setIfInBounds_toArray, List.set_cons_zero, List.set_cons_succ]
        refine wpAnyH_take (i := 32) (rfl : _ = some (Oper.mk _ _ _ _ _ _)) (by kernel_rfl) (by kernel_rfl) (by kernel_rfl) (fun _ _ _ h => h) (yieldsIf_load_mid (by rfl) 64 _ rfl g (k * 18) rfl xs[k].cells _ (fun W hW => (NK'.out W hW).1) u64.choose_spec.1 u64.choose_spec.2 info64) (by assumption) ?_
        try simp only [Act.put, List.setIfInBounds_toArray, List.set_cons_zero, List.set_cons_succ]
        refine wpAnyH_ready (rs := [33]) (by kernel_rfl) (by simp) ?_
        refine AllReadyH.cons (rfl : _ = some (Oper.mk _ _ _ _ _ _)) (fun K hKK => ?_) AllReadyH.nil
        rw [if_pos (by rfl)]
        go_simp
        refine (su_any xs[k] w.heap.size wr.drew (hmore k hkl2)).mono ?_; rintro e u1 ⟨rfl, hb1⟩; have hbr1 : Below wr.heap.size wr u1 := (Below.refl _ _).drew.trans hb1; have hOu1 := HO.out.later hbr1; have hKu1 := HKX.out.trans (KeptX.of (hbr1.mono HO.out.le)); have hrd := ((HN.out.su _ (List.getElem_mem hkl2)).later (RW'.out _ hKu1).below).rd
        go_wp2_with fail
        refine hKK.out _ _ (by exact hKu1) (fun hHeld' => ?_)
        clear hKK K hHeld
        have hHeld := hHeld'
        clear hHeld'
        try simp only [Act.put, List.setIfInBounds_toArray, List.set_cons_zero, List.set_cons_succ]
        refine wpAnyH_ready (rs := [34]) (by kernel_rfl) (by simp) ?_
        refine AllReadyH.cons (rfl : _ = some (Oper.mk _ _ _ _ _ _)) (fun K hKK => ?_) AllReadyH.nil
        rw [if_pos (by rfl)]
        go_simp
        refine (isoRecord_any xs[k].id xs[k].extent xs[k].size xs[k].f.time xs[k].f.dir _ xs[k].su u1 (hid k hkl2) (hex k hkl2) (hsz k hkl2) (ht k hkl2).1 (ht k hkl2).2 (hsu k hkl2) hrd).mono ?_; rintro e u2 ⟨⟨v2, rfl, hO2⟩, hb2⟩; obtain ⟨A2, cy2, rfl, hA2, _⟩ := hO2.shape; obtain ⟨q, hq⟩ : ∃ q, (isoRec xs[k].id.data.toList xs[k].extent xs[k].size xs[k].f.time xs[k].f.dir xs[k].su).length = q := ⟨_, rfl⟩; rw [hq] at hO2 ⊢; have hq1 := rec_le xs[k].id xs[k].extent xs[k].size xs[k].f.time xs[k].f.dir xs[k].su q hq (hid k hkl2) (hsu k hkl2); have hQ := Lib.hid hq; clear hq; have hOu2 := hOu1.later hb2; have hKu2 := hKu1.trans (KeptX.of (hb2.mono hOu1.le))
        go_wp2_with fail
        refine hKK.out _ _ (by exact hKu2) (fun hHeld' => ?_)
        clear hKK K hHeld
        have hHeld := hHeld'
        clear hHeld'
        try simp only [Act.put, List.setIfInBounds_toArray, List.set_cons_zero, List.set_cons_succ]
        refine wpAnyH_ready (rs := [35]) (by kernel_rfl) (by simp) ?_
        refine AllReadyH.cons (rfl : _ = some (Oper.mk _ _ _ _ _ _)) (fun K hKK => ?_) AllReadyH.nil
        rw [if_pos (by rfl)]
        go_simp
        refine (add_any V Wr.heap.size u1.heap.size n' q c' cy2 A' A2 l _ u2 hOu2 hQ.out hO2 (fun b hb => (World.ownsRow.lt hOu1.own b hb).2) (Nat.lt_of_lt_of_le hVR hOu1.le) hq1 (by omega)).mono ?_; rintro e u3 ⟨A3, c3, n3, rfl, hO3, hn3, hk3⟩; have hKu3 := hKu2.trans hk3
        go_wp2_with fail
        refine hKK.out _ _ (by exact hKu3) (fun hHeld' => ?_)
        clear hKK K hHeld
        have hHeld := hHeld'
        clear hHeld'
        try simp only [Act.put, List.setIfInBounds_toArray, List.set_cons_zero, List.set_cons_succ]
        refine wpAnyH_done (by kernel_rfl) ?_ _
        go_wp2_with fail
        go_roundw
        case rel => exact ⟨j + 1, n3, c3, A3, _, hlt, by simp, hO3, hKu3, by omega, by unfold Hid; rw [rows0_succ xs i p j k hi hlt HKK.out, List.foldl_append, ← hl'.out, nodeAt_ns xs k hkl2]; rfl⟩
        case measure => simp [intOf]; omega
      · have hje : j = xs[i].kids.length := by omega
        have hDB : dirBytes (XNode.ns xs) i = padSec l := by
          unfold dirBytes
          rw [hl'.out, hje, rows0_all xs i p hi hpe]
        have hcV := hO.cell
        have hln := hO.len
        have HDB := Lib.hid hDB; have HLN := Lib.hid hln; have HO := Lib.hid hO
        clear hDB hln hl' hO
        subst hje
        by_cases hr : 0 < n' % 2048
        · go_wp2_with (at_builtin; refine asList rfl fun KK hKK => ?_; refine go_appZ (.tmp 137) (.tmp 139) rfl Wr.heap.size n' c' (2048 - n' % 2048) A' l HLN.out.symm rfl HO.out.own _ rfl (by omega) (by omega) (by omega) HO.out.le ?_; intro A1 c1 w1 hO1 hb1 hg1; refine hKK _ _ ?_; clear hKK KK; obtain ⟨hV1, hcV1, hfV1⟩ := HO.out.app hO1 (by rw [List.length_append, HLN.out, List.length_replicate]) hg1; have hcV1' := hV1.cell)
          go_ret
          have e : dirBytes (XNode.ns xs) i = l ++ List.replicate (2048 - n' % 2048) 0 := by
            rw [HDB.out]; unfold padSec; rw [HLN.out, if_pos hr]; rfl
          have el : (dirBytes (XNode.ns xs) i).length = n' + (2048 - n' % 2048) := by rw [e, List.length_append, HLN.out, List.length_replicate]
          rw [el, e]
          exact ⟨_, _, rfl, hV1.own.lower hWb.size, hWb.trans (((hK.trans (KeptX.of hb1)).setCell _).below hVw hWb.size)⟩
        · go_wp2_with fail
          go_ret
          have e : dirBytes (XNode.ns xs) i = l := by
            rw [HDB.out]; unfold padSec; rw [HLN.out, if_neg hr]
          have el : (dirBytes (XNode.ns xs) i).length = n' := by rw [e, HLN.out]
          rw [el, e]
          exact ⟨_, _, rfl, HO.out.own.lower hWb.size, hWb.trans (hK.below hVw hWb.size)⟩
end Go.Proofs.YtilgpaeeleknhaaGreatDoor
end

section
namespace Go.Proofs.YtilgpaeeleknhaaGreatDoor
open Go Go.RowKit
set_option linter.unusedSimpArgs false
set_option linter.unusedVariables false

set_option maxRecDepth 100000 in
set_option maxHeartbeats 2000000 in
theorem lay_any (B B' V O N q blk : Nat) (y : Value) (l m : List UInt8) (w : World) (hV : w.cell? ⟨V, 0, none⟩ = some (.slice (some ⟨O, 0, none⟩) N N)) (hN : N = l.length) (hown : Own w B (.slice (some ⟨O, 0, none⟩) N N) l) (hq : m.length = q) (hrd : Rd w B' y m) (hfit : blk * 2048 + q ≤ N) (hN1 : N ≤ 1000000000) (hb : blk < 4294967296) :
    Calls Tryz.prog 34 #[.int .u32 blk, y, .pointer (some ⟨V, 0, none⟩)] w fun e w' => e = .returned (.tuple #[]) ∧ Own w' B (.slice (some ⟨O, 0, none⟩) N N) (splice l (blk * 2048) m) ∧ w.grownBy w' (some O) ∧ Below B w w' := by
  have HN := Lib.hid hN; have HO := Lib.hid hown; have HQ := Lib.hid hq; have HR := Lib.hid hrd
  clear hN hown hq hrd
  go_enter Tryz.func34, Tryz.ntmps34
  by_cases hlt : blk * 2048 < N
  · go_wp2_with (refine atCopy ?_; refine asList rfl fun KK hKK => ?_; refine wp_copyB_of Tryz.underlying27 info5 (.tmp 9) (.tmp 10) rfl B B' O (blk * 2048) N (N - blk * 2048) (N - blk * 2048) l m y ?_ (by rw [← HN.out]; exact HO.out) (by rw [HQ.out]; omega) (by rw [HQ.out, ← HN.out]; exact hfit) rfl HR.out ?_; rotate_left; intro w1 L1 hL1 hl1 hl1' hO1 hb1 hg1; refine hKK _ _ ?_; clear hKK KK)
    · refine bodyPost_end (v := .tuple #[]) (by simp [results, Tryz.f34]) rfl ⟨rfl, ?_, hg1, hb1⟩
      have e := hL1.out
      subst e
      have el : N = (splice l (blk * 2048) m).length := by rw [length_splice _ _ _ (by rw [HQ.out, ← HN.out]; exact hfit)]; exact HN.out
      rw [← el] at hO1
      exact hO1
    · rfl
  · have hbN : blk * 2048 = N := by omega
    have hq0 : q = 0 := by omega
    go_wp2_with (refine atCopy ?_; refine asList rfl fun KK hKK => ?_; refine wp_copyB_of Tryz.underlying27 info5 (.tmp 9) (.tmp 10) rfl B B' O 0 N 0 0 l m y ?_ (by rw [← HN.out]; exact HO.out) (by rw [HQ.out]; omega) (by rw [HQ.out, ← HN.out]; omega) rfl HR.out ?_; rotate_left; intro w1 L1 hL1 hl1 hl1' hO1 hb1 hg1; refine hKK _ _ ?_; clear hKK KK)
    · refine bodyPost_end (v := .tuple #[]) (by simp [results, Tryz.f34]) rfl ⟨rfl, ?_, hg1, hb1⟩
      have hm0 : m = [] := List.eq_nil_of_length_eq_zero (by rw [HQ.out]; exact hq0)
      have e := hL1.out
      subst hm0
      have e1 : splice l 0 ([] : List UInt8) = l := by simp [splice]
      have e2 : splice l N ([] : List UInt8) = l := by simp [splice]
      rw [e1] at e
      subst e
      rw [e2]
      rw [← HN.out] at hO1
      exact hO1
    · show Value.slice _ (N - blk * 2048) (N - blk * 2048) = _
      rw [show N - blk * 2048 = 0 by omega]
end Go.Proofs.YtilgpaeeleknhaaGreatDoor
end
