/-
  DERIVED. A part of the proof of laws.FnIsoPaths (for every input the law returns true and each argument reads as before; the listed variables read as listed when the call begins). It holds:
  · Walks: isoVolume.
-/
import Derived.Test.YtilgpaeeleknhaaGreatDoorIq17
import Derived.Test.YtilgpaeeleknhaaGreatDoorIq07
import Derived.Test.YtilgpaeeleknhaaGreatDoorIq12
section
namespace Go.Proofs.YtilgpaeeleknhaaGreatDoor
open Go Go.RowKit
set_option linter.unusedSimpArgs false
set_option linter.unusedVariables false

def padL (s : List UInt8) (n : Nat) : List UInt8 := s ++ List.replicate (n - s.length) 32
/-- The volume descriptor while it is laid: a row of 2048 bytes in the second block of the call's own. -/
structure VS (w0 w : World) (bx : List Value) (l : List UInt8) : Prop where
  own : Own w w0.heap.size (.slice (some ⟨w0.heap.size + 1, 0, none⟩) 2048 2048) l
  len : 2048 = l.length
  below : Below w0.heap.size w0 w
  lt : w0.heap.size < w.heap.size
  box : w.heap[w0.heap.size]? = some (.cells bx.toArray 64)
theorem VS.copyStr {o : Oper} {a : Act} {w0 w : World} {K : Act → World → Prop} {Q : Exit → Act → World → Prop} {l : List UInt8} {bx : List Value} (hV : VS w0 w bx l) (d s : Operand)
    (ho : o.op = .call { callee := .builtin .copy, args := #[d, s], argTypes := #[27, 9] }) (off dl dc : Nat) (t : ByteArray) (hd : a.eval d = .slice (some ⟨w0.heap.size + 1, off, none⟩) dl dc) (hdl : t.size ≤ dl) (hfit : off + t.size ≤ 2048) (hs : a.eval s = .string t)
    (h : ∀ w' L, Hid (L = splice l off t.data.toList) → VS w0 w' bx L → K (a.put o.dst (goInt t.size)) w') : Oper.wp Tryz.prog o a w K Q := by
  refine wp_copyStr d s ho w0.heap.size _ off 2048 dl dc 2048 l t hd hV.len hV.own hdl hfit hs ?_
  intro w' hO hb hg
  have hm : t.data.toList.length = t.size := by rw [Array.length_toList]; rfl
  exact h w' _ rfl ⟨hO, by rw [length_splice _ _ _ (by have := hV.len; omega)]; exact hV.len, hV.below.trans hb, Nat.lt_of_lt_of_le hV.lt hg.size, by rw [hg.block _ hV.lt (by simp)]; exact hV.box⟩
theorem VS.copyRd {o : Oper} {a : Act} {w0 w wa : World} {K : Act → World → Prop} {Q : Exit → Act → World → Prop} {l : List UInt8} {bx : List Value} (hV : VS w0 w bx l) (d s : Operand)
    (ho : o.op = .call { callee := .builtin .copy, args := #[d, s], argTypes := #[27, 27] }) (off dl dc q B' : Nat) (m : List UInt8) (y : Value) (hd : a.eval d = .slice (some ⟨w0.heap.size + 1, off, none⟩) dl dc) (hwa : Below w.heap.size w wa) (hq : q = m.length) (hdl : q ≤ dl) (hfit : off + q ≤ 2048)
    (hs : a.eval s = y) (hrd : Rd wa B' y m)
    (h : ∀ w' L, Hid (L = splice l off m) → VS w0 w' bx L → K (a.put o.dst (goInt q)) w') : Oper.wp Tryz.prog o a wa K Q := by
  refine wp_copyRd d s ho w0.heap.size B' _ off 2048 dl dc 2048 q l m y hd hV.len hV.own hwa hV.below (Nat.le_refl _) hq hdl hfit hs hrd ?_
  intro w' hO hb hl hg
  exact h w' _ rfl ⟨hO, hl, hb, Nat.lt_of_lt_of_le hV.lt (Nat.le_trans hwa.size hg.size), by rw [hg.block _ (Nat.lt_of_lt_of_le hV.lt hwa.size) (by simp), hwa.block _ hV.lt]; exact hV.box⟩

theorem VS.cell {w0 w : World} {bx : List Value} {l : List UInt8} (h : VS w0 w bx l) (j : Nat) (u : Value) (hj : bx[j]? = some u) : w.cell? ⟨w0.heap.size, j, none⟩ = some u := by
  simp only [World.cell?, h.box]
  simpa using hj
theorem VS.later {w0 w w' : World} {bx : List Value} {l : List UInt8} (h : VS w0 w bx l) (hb : Below w.heap.size w w') : VS w0 w' bx l :=
  ⟨h.own.later hb, h.len, h.below.trans (hb.mono h.below.size), Nat.lt_of_lt_of_le h.lt hb.size, by rw [hb.block _ h.lt]; exact h.box⟩
theorem VS.set {w0 w : World} {bx : List Value} {l : List UInt8} (h : VS w0 w bx l) (j : Nat) (c : UInt8) : VS w0 (w.setCell ⟨w0.heap.size + 1, j, none⟩ (BV c)) bx (l.set j c) := by
  have hO := h.own
  rw [h.len] at hO
  have h2 := hO.set j c
  have e : (l.set j c).length = l.length := List.length_set
  refine ⟨?_, by rw [e]; exact h.len, h.below.setCell (by simp) _, by simpa using h.lt, ?_⟩
  · rw [e] at h2; rw [h.len]; exact h2
  · rw [heap_setCell_other w ⟨w0.heap.size + 1, j, none⟩ w0.heap.size _ (by simp)]; exact h.box
theorem VS.byte {w0 w : World} {bx : List Value} {l : List UInt8} (h : VS w0 w bx l) (j : Nat) (hj : j < 2048) : (∃ b, w.cell? ⟨w0.heap.size + 1, j, none⟩ = some (BV b)) ∧ w.frozen? ⟨w0.heap.size + 1, j, none⟩ = false := by
  have hO := h.own
  rw [h.len] at hO hj
  exact ⟨⟨_, hO.cell j hj⟩, hO.unfrozen j⟩
theorem rd_nil (w : World) (B : Nat) : Rd w B (.slice none 0 0) [] := ⟨none, 0, rfl, (fun ad e => by cases e), (fun j u hu => by simp [BVs] at hu)⟩
theorem set_splice (l : List UInt8) (j : Nat) (c : UInt8) (h : j < l.length) : l.set j c = splice l j [c] := by
  rw [splice, List.set_eq_take_append_cons_drop, if_pos h]; rfl
def layB (out : List UInt8) (l : List (Nat × List UInt8)) : List UInt8 := l.foldl (fun o x => splice o x.1 x.2) out
theorem layB_snoc (out : List UInt8) (l : List (Nat × List UInt8)) (x : Nat × List UInt8) : layB out (l ++ [x]) = splice (layB out l) x.1 x.2 := by simp [layB]
theorem layB_length (l : List (Nat × List UInt8)) (out : List UInt8) (h : ∀ x ∈ l, x.1 + x.2.length ≤ out.length) : (layB out l).length = out.length := by
  induction l generalizing out with
  | nil => rfl
  | cons x l ih =>
    have e := length_splice out x.1 x.2 (h x (by simp))
    simp only [layB, List.foldl_cons]
    exact (ih _ (fun y hy => by rw [e]; exact h y (by simp [hy]))).trans e
theorem layB_keep (l : List (Nat × List UInt8)) (out : List UInt8) (h : ∀ x ∈ l, x.1 + x.2.length ≤ out.length) (a : Nat) (c : List UInt8) (hc : Holds out a c)
    (hd : ∀ x ∈ l, x.1 + x.2.length ≤ a ∨ a + c.length ≤ x.1) : Holds (layB out l) a c := by
  induction l generalizing out with
  | nil => exact hc
  | cons x l ih =>
    have e := length_splice out x.1 x.2 (h x (by simp))
    simp only [layB, List.foldl_cons]
    exact ih _ (fun y hy => by rw [e]; exact h y (by simp [hy])) (hc.other _ _ (h x (by simp)) (hd x (by simp))) (fun y hy => hd y (by simp [hy]))
theorem layB_holds (l m : List (Nat × List UInt8)) (x : Nat × List UInt8) (out : List UInt8) (h : ∀ y ∈ l ++ x :: m, y.1 + y.2.length ≤ out.length) (hd : ∀ y ∈ m, y.1 + y.2.length ≤ x.1 ∨ x.1 + x.2.length ≤ y.1) : Holds (layB out (l ++ x :: m)) x.1 x.2 := by
  have e : layB out (l ++ x :: m) = layB (splice (layB out l) x.1 x.2) m := by simp [layB]
  have hl := layB_length l out (fun y hy => h y (by simp [hy]))
  have hs := length_splice (layB out l) x.1 x.2 (by rw [hl]; exact h x (by simp))
  rw [e]
  exact layB_keep m _ (fun y hy => by rw [hs, hl]; exact h y (by simp [hy])) _ _ (Holds.here _ _ _ (by rw [hl]; exact h x (by simp))) hd
def nul17 : List UInt8 := [48, 48, 48, 48, 48, 48, 48, 48, 48, 48, 48, 48, 48, 48, 48, 48, 0]
def tim17 : List UInt8 := [50, 48, 50, 48, 48, 49, 48, 49, 48, 48, 48, 48, 48, 48, 48, 48, 0]
def nulLays (i : Nat) : List (Nat × List UInt8) := (List.range i).map (fun i => (813 + 17 * i, nul17))
theorem nulLays_succ (out : List UInt8) (i : Nat) : layB out (nulLays (i + 1)) = splice (layB out (nulLays i)) (813 + 17 * i) nul17 := by
  rw [nulLays, List.range_succ, List.map_append, layB, List.foldl_append]; rfl
/-- What is laid in the volume descriptor, in order. -/
def pvdLays (vol : List UInt8) (rec34 : List UInt8) (blk pt li bi : Nat) : List (Nat × List UInt8) :=
  [(0, [1, 67, 68, 48, 48, 49, 1]), (8, padL [] 32), (40, vol ++ List.replicate (32 - vol.length) 32), (80, both32 blk), (120, both16 1), (124, both16 1), (128, both16 2048), (132, both32 pt), (140, (both32 li).take 4), (148, ((both32 bi).drop 4).take 4), (156, rec34), (190, padL [] 623),
   (813, nul17), (830, nul17), (847, nul17), (864, nul17), (813, tim17), (830, tim17), (881, [1])]
def pvdB (vol : List UInt8) (rec34 : List UInt8) (blk pt li bi : Nat) : List UInt8 := layB (List.replicate 2048 0) (pvdLays vol rec34 blk pt li bi)

theorem rd_part (w : World) (l : List UInt8) (k q c : Nat) (m : List UInt8) (hm : m = (l.drop k).take q) : Rd (w.alloc (.cells (BVs l).toArray 5)) (w.heap.size + 1) (.slice (some ⟨w.heap.size, k, none⟩) m.length c) m := by
  refine ⟨_, _, rfl, (by intro ad e; cases e; exact Nat.lt_succ_self _), fun j u hu => ⟨_, rfl, ?_⟩⟩
  rw [Addr.add_mid]
  have hg : (w.alloc (.cells (BVs l).toArray 5)).heap[w.heap.size]? = some (.cells (BVs l).toArray 5) := by
    show (w.heap.push _)[w.heap.size]? = _; rw [Array.getElem?_push_size]
  simp only [World.cell?, hg]
  subst hm
  have hj : j < ((l.drop k).take q).length := by
    have := (List.getElem?_eq_some_iff.1 hu).1
    rwa [length_BVs] at this
  rw [BVs_get _ _ hj] at hu
  cases hu
  have hkj : k + j < l.length := by simp at hj; omega
  simp [BVs, hkj]
set_option maxRecDepth 100000 in
set_option maxHeartbeats 4000000 in
theorem isoVolume_any (vol : ByteArray) (x : XNode) (blk pt li bi : Nat) (w : World) (hv : vol.size ≤ 32) (h1 : blk < 4294967296) (h2 : pt < 4294967296) (h3 : li < 4294967296) (h4 : bi < 4294967296) (h5 : x.extent < 4294967296) (h6 : x.size < 4294967296) (h7 : -9223372036854775808 ≤ x.f.time) (h8 : x.f.time ≤ 9223372036854775807) :
    Calls Tryz.prog 35 #[.string vol, .agg x.cells.toArray, .int .u32 blk, .int .u32 pt, .int .u32 li, .int .u32 bi] w fun e w' => e = .returned (.slice (some ⟨w.heap.size + 1, 0, none⟩) 2048 2048) ∧ Own w' w.heap.size (.slice (some ⟨w.heap.size + 1, 0, none⟩) 2048 2048) (pvdB vol.data.toList (isoRec [0] x.extent x.size x.f.time true []) blk pt li bi) ∧ Below w.heap.size w w' := by
  go_enter Tryz.func35, Tryz.ntmps35
  go_wp2_with (first
    | (at_make; go_must (refine asList rfl fun KK hKK => ?_); go_must (refine go_makeN (w0 := w.alloc (.cells x.cells.toArray 64)) (.const (.int .i64 2048)) (.const (.int .i64 2048)) rfl (w.heap.size + 1) _ _ _ _ 2048 2048 rfl rfl (by rfl) (by rfl) (by omega) (by omega) (Below.refl _ _) (by simp) ?_); go_must (intro w1 L1 hL1 hl1 ho1 hb1 hs1); go_must (refine hKK _ _ ?_); clear hKK KK; have V1 : VS w w1 x.cells L1 := ⟨by simpa using ho1.lower (Nat.le_succ _), hl1.symm, ((Below.refl _ _).alloc (Nat.le_refl _) _).trans (hb1.mono (Nat.le_succ _)), by simp at hs1; omega, by rw [hb1.block _ (Nat.lt_succ_self _)]; show (w.heap.push _)[w.heap.size]? = _; rw [Array.getElem?_push_size]⟩)
    | (refine atCopy ?_; go_must (refine asList rfl fun KK hKK => ?_); go_must (refine V1.copyStr (.tmp 16) (.const (.string ⟨#[1, 67, 68, 48, 48, 49, 1]⟩)) rfl 0 2048 2048 ⟨#[1, 67, 68, 48, 48, 49, 1]⟩ rfl (by decide) (by decide) rfl ?_); go_must (intro w2 L2 hL2 V2); refine hKK _ _ ?_; clear hKK KK))
  go_region_held3 (fun _ => True) (trivial) (first
    | (go_at_call 57; go_must (refine (padded_any ⟨#[]⟩ 32 _ (by decide) (by omega)).mono ?_); go_must (rintro e u3 ⟨g3, c3, rfl, hF3, hb3⟩))
    | (refine asStep rfl ?_; refine V2.copyRd (.tmp 19) (.tmp 20) rfl 8 2040 2040 32 _ (padL [] 32) _ rfl (by first | exact ((Below.refl _ _).drew).trans hb3 | exact hb3) (by rfl) (by decide) (by decide) rfl (by exact hF3.rd) ?_; intro w3 L3 hL3 V3))
  go_wp2_with fail
  go_region_held3 (fun _ => True) (trivial) (first
    | (go_at_call 57; go_must (refine (padded_any vol 32 _ hv (by omega)).mono ?_); go_must (rintro e u4 ⟨g4, c4, rfl, hF4, hb4⟩))
    | (refine asStep rfl ?_; refine V3.copyRd (.tmp 23) (.tmp 25) rfl 40 2008 2008 32 _ (vol.data.toList ++ List.replicate (32 - vol.size) 32) _ rfl (by first | exact ((Below.refl _ _).drew).trans hb4 | exact hb4) (by rw [List.length_append, List.length_replicate, Array.length_toList]; have : vol.data.size = vol.size := rfl; omega) (by decide) (by decide) rfl (by exact hF4.rd) ?_; intro w4 L4 hL4 V4))
  go_wp2_with fail
  go_region_held3 (fun _ => True) (trivial) (first
    | (go_at_call 58; go_must (refine (both32_any blk _ h1).mono ?_); go_must (rintro e w' ⟨rfl, rfl⟩))
    | (refine asStep rfl ?_; refine V4.copyRd (.tmp 28) (.tmp 30) rfl 80 1968 1968 8 _ (both32 blk) _ rfl (by first | exact ((Below.refl _ _).alloc (Nat.le_refl _) _).drew | exact (((Below.refl _ _).drew).alloc (Nat.le_refl _) _) | exact ((Below.refl _ _).alloc (Nat.le_refl _) _)) (by rfl) (by decide) (by decide) rfl (by exact rd_lit _ (both32 blk) (by simp [length_both32])) ?_; intro w5 L5 hL5 V5))
  go_wp2_with fail
  go_region_held3 (fun _ => True) (trivial) (first
    | (go_at_call 59; go_must (refine (both16_any 1 _ (by omega)).mono ?_); go_must (rintro e w' ⟨rfl, rfl⟩))
    | (refine asStep rfl ?_; refine V5.copyRd (.tmp 33) (.tmp 34) rfl 120 1928 1928 4 _ (both16 1) _ rfl (by first | exact ((Below.refl _ _).alloc (Nat.le_refl _) _).drew | exact (((Below.refl _ _).drew).alloc (Nat.le_refl _) _) | exact ((Below.refl _ _).alloc (Nat.le_refl _) _)) (by rfl) (by decide) (by decide) rfl (by exact rd_lit _ (both16 1) (by simp [length_both16])) ?_; intro w6 L6 hL6 V6))
  go_wp2_with fail
  go_region_held3 (fun _ => True) (trivial) (first
    | (go_at_call 59; go_must (refine (both16_any 1 _ (by omega)).mono ?_); go_must (rintro e w' ⟨rfl, rfl⟩))
    | (refine asStep rfl ?_; refine V6.copyRd (.tmp 37) (.tmp 38) rfl 124 1924 1924 4 _ (both16 1) _ rfl (by first | exact ((Below.refl _ _).alloc (Nat.le_refl _) _).drew | exact (((Below.refl _ _).drew).alloc (Nat.le_refl _) _) | exact ((Below.refl _ _).alloc (Nat.le_refl _) _)) (by rfl) (by decide) (by decide) rfl (by exact rd_lit _ (both16 1) (by simp [length_both16])) ?_; intro w7 L7 hL7 V7))
  go_wp2_with fail
  go_region_held3 (fun _ => True) (trivial) (first
    | (go_at_call 59; go_must (refine (both16_any 2048 _ (by omega)).mono ?_); go_must (rintro e w' ⟨rfl, rfl⟩))
    | (refine asStep rfl ?_; refine V7.copyRd (.tmp 41) (.tmp 42) rfl 128 1920 1920 4 _ (both16 2048) _ rfl (by first | exact ((Below.refl _ _).alloc (Nat.le_refl _) _).drew | exact (((Below.refl _ _).drew).alloc (Nat.le_refl _) _) | exact ((Below.refl _ _).alloc (Nat.le_refl _) _)) (by rfl) (by decide) (by decide) rfl (by exact rd_lit _ (both16 2048) (by simp [length_both16])) ?_; intro w8 L8 hL8 V8))
  go_wp2_with fail
  go_region_held3 (fun _ => True) (trivial) (first
    | (go_at_call 58; go_must (refine (both32_any pt _ h2).mono ?_); go_must (rintro e w' ⟨rfl, rfl⟩))
    | (refine asStep rfl ?_; refine V8.copyRd (.tmp 45) (.tmp 47) rfl 132 1916 1916 8 _ (both32 pt) _ rfl (by first | exact ((Below.refl _ _).alloc (Nat.le_refl _) _).drew | exact (((Below.refl _ _).drew).alloc (Nat.le_refl _) _) | exact ((Below.refl _ _).alloc (Nat.le_refl _) _)) (by rfl) (by decide) (by decide) rfl (by exact rd_lit _ (both32 pt) (by simp [length_both32])) ?_; intro w9 L9 hL9 V9))
  go_wp2_with fail
  go_region_held3 (fun _ => True) (trivial) (first
    | (go_at_call 58; go_must (refine (both32_any li _ h3).mono ?_); go_must (rintro e w' ⟨rfl, rfl⟩))
    | (refine asStep rfl ?_; refine V9.copyRd (.tmp 50) (.tmp 53) rfl 140 1908 1908 4 _ ((both32 li).take 4) _ rfl (by first | exact ((Below.refl _ _).alloc (Nat.le_refl _) _).drew | exact (((Below.refl _ _).drew).alloc (Nat.le_refl _) _) | exact ((Below.refl _ _).alloc (Nat.le_refl _) _)) (by rfl) (by decide) (by decide) rfl (by exact rd_part _ (both32 li) 0 4 8 ((both32 li).take 4) rfl) ?_; intro w10 L10 hL10 V10))
  go_wp2_with fail
  go_region_held3 (fun _ => True) (trivial) (first
    | (go_at_call 58; go_must (refine (both32_any bi _ h4).mono ?_); go_must (rintro e w' ⟨rfl, rfl⟩))
    | (refine asStep rfl ?_; refine V10.copyRd (.tmp 56) (.tmp 59) rfl 148 1900 1900 4 _ (((both32 bi).drop 4).take 4) _ rfl (by first | exact ((Below.refl _ _).alloc (Nat.le_refl _) _).drew | exact (((Below.refl _ _).drew).alloc (Nat.le_refl _) _) | exact ((Below.refl _ _).alloc (Nat.le_refl _) _)) (by rfl) (by decide) (by decide) rfl (by exact rd_part _ (both32 bi) 4 4 4 _ rfl) ?_; intro w11 L11 hL11 V11))
  go_wp2_with fail
  have bx4 := V11.cell 11 _ rfl
  have bx5 := V11.cell 12 _ rfl
  have bx7 := V11.cell 7 _ rfl
  go_region_held3 (fun wr => wr.cell? ⟨w.heap.size, 11, none⟩ = some (.int .u32 x.extent) ∧ wr.cell? ⟨w.heap.size, 12, none⟩ = some (.int .u32 x.size) ∧ wr.cell? ⟨w.heap.size, 7, none⟩ = some (.int .i64 x.f.time)) (first | exact ⟨bx4, bx5, bx7⟩ | exact k12 | exact k13) (first
    | (go_at_call 56; go_must (refine (isoRecord_any ⟨#[0]⟩ x.extent x.size x.f.time true (.slice none 0 0) [] _ (by decide) h5 h6 h7 h8 (by decide) (rd_nil _ _)).mono ?_); go_must (rintro e u12 ⟨⟨v12, rfl, hF12⟩, hb12⟩); have k12 := And.intro ((V11.later (by first | exact hb12 | exact ((Below.refl _ _).drew).trans hb12)).cell 11 _ rfl) (And.intro ((V11.later (by first | exact hb12 | exact ((Below.refl _ _).drew).trans hb12)).cell 12 _ rfl) ((V11.later (by first | exact hb12 | exact ((Below.refl _ _).drew).trans hb12)).cell 7 _ rfl)))
    | (refine asStep rfl ?_; refine V11.copyRd (.tmp 62) (.tmp 70) rfl 156 1892 1892 34 _ (isoRec [0] x.extent x.size x.f.time true []) _ rfl (by first | exact ((Below.refl _ _).drew).trans hb12 | exact hb12) (by rw [isoRec_length]; rfl) (by decide) (by decide) rfl (by exact hF12.rd) ?_; intro w12 L12 hL12 V12; have k13 := And.intro (V12.cell 11 _ rfl) (And.intro (V12.cell 12 _ rfl) (V12.cell 7 _ rfl))))
  all_goals
    go_wp2_with fail
    go_region_held3 (fun _ => True) (trivial) (first
      | (go_at_call 57; go_must (refine (padded_any ⟨#[]⟩ 623 _ (by decide) (by omega)).mono ?_); go_must (rintro e u13 ⟨g13, c13, rfl, hF13, hb13⟩))
      | (refine asStep rfl ?_; refine V12.copyRd (.tmp 73) (.tmp 74) rfl 190 1858 1858 623 _ (padL [] 623) _ rfl (by first | exact ((Below.refl _ _).drew).trans hb13 | exact hb13) (by rfl) (by decide) (by decide) rfl (by exact hF13.rd) ?_; intro w13 L13 hL13 V13))
    go_wp2_with fail
    go_loopw [14, 76] (fun _ iv wr => ∃ (i : Nat) (L : List UInt8), i ≤ 4 ∧ iv = .int .i64 i ∧ VS w wr x.cells L ∧ Hid (L = layB L13 (nulLays i))) (fun _ iv _ => 4 - (intOf iv).toNat)
    case atStart => exact ⟨0, L13, by omega, rfl, V13, rfl⟩
    case round =>
      obtain ⟨i, L, hi, rfl, hV, hL⟩ := hrel
      by_cases hlt : i < 4
      · go_wp2_with (refine atCopy ?_; go_must (refine asList rfl fun KK hKK => ?_); go_must (refine hV.copyStr (.tmp 83) (.const (.string ⟨#[48, 48, 48, 48, 48, 48, 48, 48, 48, 48, 48, 48, 48, 48, 48, 48, 0]⟩)) rfl (813 + 17 * i) (2048 - (813 + 17 * i)) (2048 - (813 + 17 * i)) ⟨#[48, 48, 48, 48, 48, 48, 48, 48, 48, 48, 48, 48, 48, 48, 48, 48, 0]⟩ ?_ (by show 17 ≤ _; omega) (by show _ + 17 ≤ _; omega) rfl ?_); rotate_left; go_must (intro w14 L14 hL14 V14); refine hKK _ _ ?_; clear hKK KK)
        · go_roundw
          case rel => exact ⟨i + 1, hlt, by simp, L14, V14, by unfold Hid; rw [nulLays_succ, hL14.out, hL.out]; rfl⟩
          case measure => simp [intOf]; omega
        · show Act.eval _ (.tmp 83) = _
          simp [Act.eval]
      · have hi4 : i = 4 := by omega
        subst hi4
        go_wp2_with (first
          | (refine atCopy ?_; refine asList rfl fun KK hKK => ?_; (refine V15.copyStr (.tmp 90) (.const (.string ⟨#[50, 48, 50, 48, 48, 49, 48, 49, 48, 48, 48, 48, 48, 48, 48, 48, 0]⟩)) rfl 830 1218 1218 ⟨#[50, 48, 50, 48, 48, 49, 48, 49, 48, 48, 48, 48, 48, 48, 48, 48, 0]⟩ rfl (by decide) (by decide) rfl ?_); go_must (intro w16 L16 hL16 V16); refine hKK _ _ ?_; clear hKK KK; obtain ⟨⟨b16, hc16⟩, hf16⟩ := V16.byte 881 (by decide))
          | (refine atCopy ?_; go_must (refine asList rfl fun KK hKK => ?_); go_must (refine hV.copyStr (.tmp 87) (.const (.string ⟨#[50, 48, 50, 48, 48, 49, 48, 49, 48, 48, 48, 48, 48, 48, 48, 48, 0]⟩)) rfl 813 1235 1235 ⟨#[50, 48, 50, 48, 48, 49, 48, 49, 48, 48, 48, 48, 48, 48, 48, 48, 0]⟩ rfl (by decide) (by decide) rfl ?_); go_must (intro w15 L15 hL15 V15); refine hKK _ _ ?_; clear hKK KK))
        go_ret
        have V17 := V16.set 881 1
        have e : L16.set 881 1 = pvdB vol.data.toList (isoRec [0] x.extent x.size x.f.time true []) blk pt li bi := by
          have hv' : vol.data.toList.length = vol.size := by rw [Array.length_toList]; rfl
          rw [set_splice _ _ _ (by have := V16.len; omega), hL16.out, hL15.out, hL.out, hL13.out, hL12.out, hL11.out, hL10.out, hL9.out, hL8.out, hL7.out, hL6.out, hL5.out, hL4.out, hL3.out, hL2.out, hL1.out]
          unfold pvdB pvdLays
          rw [hv']
          rfl
        rw [e] at V17
        exact ⟨rfl, V17.own, V17.below⟩
end Go.Proofs.YtilgpaeeleknhaaGreatDoor
end
