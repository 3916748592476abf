/- A part of the proof of laws.FnIsoRock (see the last text). -/
import Derived.Test.YtilgpaeeleknhaaGreatDoorJr13
import Derived.Lib.BufferWrite
import Derived.Test.YtilgpaeeleknhaaGreatDoorJr06
set_option linter.unusedSimpArgs false
set_option linter.unusedVariables false
set_option maxRecDepth 1000000
set_option maxHeartbeats 8000000
namespace Go.Proofs.YtilgpaeeleknhaaGreatDoor
open Go Go.RowKit
theorem wp_copyStr_of {P : Program} {o : Oper} {a : Act} {w : World} {K : Act -> World -> Prop} {Q : Exit -> Act -> World -> Prop} (h27 : P.underlying 27 = some (.slice 5)) (h5 : (P.info? 5).map (fun i => (i.zero, i.size, i.bytes)) = some (some (.int .u8 0), 1, 1)) (d s : Operand)
 (ho : o.op = .call { callee := .builtin .copy, args := #[d, s], argTypes := #[27, 9] })
 (B g off cap dl dc n : Nat) (l : List UInt8) (t : ByteArray) (hd : a.eval d = .slice (some ⟨g, off, none⟩) dl dc) (hn : n = l.length) (hown : Own w B (.slice (some ⟨g, 0, none⟩) n cap) l) (hdl : t.size <= dl) (hfit : off + t.size <= n)
 (hs : a.eval s = .string t)
 (h : ∀ w', Own w' B (.slice (some ⟨g, 0, none⟩) n cap) (splice l off t.data.toList) -> Below B w w' -> w.grownBy w' (some g) -> K (a.put o.dst (goInt t.size)) w') :
 Oper.wp P o a w K Q := by
 subst hn
 obtain ⟨i, hi, hz, hsz, hby⟩ := info_parts h5
 rcases hown.2 with ⟨hv, h0⟩ | ⟨g', cap', cur, hv, hBg, hg, hnc, hcm, hcs, htake⟩
 . cases hv
 injection hv with hv1 hv2 hv3
 injection hv1 with hv1
 injection hv1 with hv1 _ _
 subst hv1; subst hv3
 have hsz1 : (P.info? 5).map (·.size) = some 1 := by simp [hi, hsz]
 generalize hm : t.data.toList = m at h
 have hml : m.length = t.size := by rw [<- hm, Array.length_toList]; rfl
 have hll : (splice l off m).length = l.length := length_splice l off m (by omega)
 have hcs' : cur.size = cap := by simpa using hcs
 have hrun := Lib.run_copy_row_string (P := P) w 27 9 o.type 5 g off dl dc t cur 5 h27 hsz1 hg hdl (by omega)
 have hbc : Lib.byteCells t.data.toList = BVs m := by rw [hm]; rfl
 rw [hbc] at hrun
 unfold Oper.wp
 simp [execOp, ho, resolve, invoke, builtin, hd, hs, hrun, Result.andThen]
 have hO : Own (w.setRow g (cur.toList.take off ++ (BVs m ++ cur.toList.drop (off + m.length))).toArray) B (.slice (some ⟨g, 0, none⟩) (splice l off m).length cap) (splice l off m) := by
  refine ⟨by simp [length_BVs], .inr ⟨g, cap, _, rfl, hBg, setRow_heap w g cur _ 5 _ hg, by omega, hcm, ?_, ?_⟩⟩
  . simp [length_BVs]; omega
  . have ht' : cur.toList.take l.length = BVs l := by simpa using htake
    have hcl : cur.toList.length = cap := by simp [hcs']
    rw [hll]
    apply List.ext_getElem?
    intro j
    have hj : ∀ j, j < l.length -> cur.toList[j]? = (BVs l)[j]? := by
     intro j hj
     rw [<- ht', List.getElem?_take, if_pos hj]
    simp only [Nat.mul_one, List.getElem?_take]
    by_cases h1 : j < l.length
    . rw [if_pos h1]
      have e2 : BVs (splice l off m) = splice (BVs l) off (BVs m) := by simp [BVs, splice]
      rw [e2, splice, List.getElem?_append, List.getElem?_append, List.getElem?_append, List.getElem?_append]
      simp only [List.length_take, length_BVs, hcl, List.getElem?_take, List.getElem?_drop]
      have m1 : min off cap = off := by omega
      have m2 : min off l.length = off := by omega
      rw [m1, m2]
      by_cases h2 : j < off
      . simp only [if_pos h2]; exact hj j h1
      . simp only [if_neg h2]
        by_cases h3 : j - off < m.length
        . simp only [if_pos h3]
        . simp only [if_neg h3]
          exact hj _ (by omega)
    . rw [if_neg h1]
      rw [List.getElem?_eq_none]
      rw [length_BVs, hll]; omega
 rw [hll] at hO
 rw [hml] at hO
 exact h _ hO (below_setRow (Below.refl _ _) hBg _) ⟨rfl, rfl, rfl, by simp, fun k _ hk => setRow_other w g k _ (fun e => hk (by simp [e]))⟩
abbrev wp_copyStr {o : Oper} {a : Act} {w : World} {K : Act -> World -> Prop} {Q : Exit -> Act -> World -> Prop} := @wp_copyStr_of Tryz.prog o a w K Q Tryz.underlying27 info5
theorem OwnF.rd {w : World} {B : Nat} {v : Value} {l : List UInt8} (h : OwnF w B v l) : Rd w w.heap.size v l := by
 obtain ⟨g, c, rfl, hb, hg⟩ := h.shape
 refine ⟨_, _, rfl, (by intro ad e; cases e; exact hg), fun j u hu => ⟨_, rfl, ?_⟩⟩
 rw [Addr.add_mid, Nat.zero_add]
 exact h.cells j u hu
theorem wp_copyRd {o : Oper} {a : Act} {w0 w wa : World} {K : Act -> World -> Prop} {Q : Exit -> Act -> World -> Prop} (d s : Operand)
 (ho : o.op = .call { callee := .builtin .copy, args := #[d, s], argTypes := #[27, 27] })
 (B B' g off cap dl dc n q : Nat) (l m : List UInt8) (y : Value) (hd : a.eval d = .slice (some ⟨g, off, none⟩) dl dc) (hn : n = l.length) (hown : Own w B (.slice (some ⟨g, 0, none⟩) n cap) l) (hwa : Below w.heap.size w wa) (hb : Below B w0 w) (hB : B <= w0.heap.size) (hq : q = m.length) (hdl : q <= dl) (hfit : off + q <= n)
 (hs : a.eval s = y) (hrd : Rd wa B' y m)
 (h : ∀ w', Own w' B (.slice (some ⟨g, 0, none⟩) n cap) (splice l off m) -> Below B w0 w' -> n = (splice l off m).length -> wa.grownBy w' (some g) -> K (a.put o.dst (goInt q)) w') :
 Oper.wp Tryz.prog o a wa K Q := by
 subst hn; subst hq
 refine wp_copyB_of Tryz.underlying27 info5 d s ho B B' g off cap dl dc l m y hd (hown.later hwa) hdl hfit hs hrd ?_
 intro w' L hL h1 h2 hO hb1 hgr
 have e := hL.out
 subst e
 have hll : (splice l off m).length = l.length := length_splice l off m hfit
 rw [hll] at hO
 exact h w' hO (hb.trans ((hwa.mono (Nat.le_trans hB hb.size)).trans hb1)) hll.symm hgr
def padL (s : List UInt8) (n : Nat) : List UInt8 := s ++ List.replicate (n - s.length) 32
structure VS (w0 w : World) (bx : List Value) (l : List UInt8) : Prop where
 own : Own w w0.heap.size (.slice (some ⟨w0.heap.size + 1, 0, none⟩) 2048 2048) l
 len : 2048 = l.length
 below : Below w0.heap.size w0 w
 lt : w0.heap.size < w.heap.size
 box : w.heap[w0.heap.size]? = some (.cells bx.toArray 64)
theorem VS.copyStr {o : Oper} {a : Act} {w0 w : World} {K : Act -> World -> Prop} {Q : Exit -> Act -> World -> Prop} {l : List UInt8} {bx : List Value} (hV : VS w0 w bx l) (d s : Operand)
 (ho : o.op = .call { callee := .builtin .copy, args := #[d, s], argTypes := #[27, 9] }) (off dl dc : Nat) (t : ByteArray) (hd : a.eval d = .slice (some ⟨w0.heap.size + 1, off, none⟩) dl dc) (hdl : t.size <= dl) (hfit : off + t.size <= 2048) (hs : a.eval s = .string t)
 (h : ∀ w' L, Hid (L = splice l off t.data.toList) -> VS w0 w' bx L -> K (a.put o.dst (goInt t.size)) w') : Oper.wp Tryz.prog o a w K Q := by
 refine wp_copyStr d s ho w0.heap.size _ off 2048 dl dc 2048 l t hd hV.len hV.own hdl hfit hs ?_
 intro w' hO hb hg
 have hm : t.data.toList.length = t.size := by rw [Array.length_toList]; rfl
 exact h w' _ rfl ⟨hO, by rw [length_splice _ _ _ (by have := hV.len; omega)]; exact hV.len, hV.below.trans hb, Nat.lt_of_lt_of_le hV.lt hg.size, by rw [hg.block _ hV.lt (by simp)]; exact hV.box⟩
theorem VS.copyRd {o : Oper} {a : Act} {w0 w wa : World} {K : Act -> World -> Prop} {Q : Exit -> Act -> World -> Prop} {l : List UInt8} {bx : List Value} (hV : VS w0 w bx l) (d s : Operand)
 (ho : o.op = .call { callee := .builtin .copy, args := #[d, s], argTypes := #[27, 27] }) (off dl dc q B' : Nat) (m : List UInt8) (y : Value) (hd : a.eval d = .slice (some ⟨w0.heap.size + 1, off, none⟩) dl dc) (hwa : Below w.heap.size w wa) (hq : q = m.length) (hdl : q <= dl) (hfit : off + q <= 2048)
 (hs : a.eval s = y) (hrd : Rd wa B' y m)
 (h : ∀ w' L, Hid (L = splice l off m) -> VS w0 w' bx L -> K (a.put o.dst (goInt q)) w') : Oper.wp Tryz.prog o a wa K Q := by
 refine wp_copyRd d s ho w0.heap.size B' _ off 2048 dl dc 2048 q l m y hd hV.len hV.own hwa hV.below (Nat.le_refl _) hq hdl hfit hs hrd ?_
 intro w' hO hb hl hg
 exact h w' _ rfl ⟨hO, hl, hb, Nat.lt_of_lt_of_le hV.lt (Nat.le_trans hwa.size hg.size), by rw [hg.block _ (Nat.lt_of_lt_of_le hV.lt hwa.size) (by simp), hwa.block _ hV.lt]; exact hV.box⟩
theorem VS.cell {w0 w : World} {bx : List Value} {l : List UInt8} (h : VS w0 w bx l) (j : Nat) (u : Value) (hj : bx[j]? = some u) : w.cell? ⟨w0.heap.size, j, none⟩ = some u := by
 simp only [World.cell?, h.box]
 simpa using hj
theorem VS.later {w0 w w' : World} {bx : List Value} {l : List UInt8} (h : VS w0 w bx l) (hb : Below w.heap.size w w') : VS w0 w' bx l :=
 ⟨h.own.later hb, h.len, h.below.trans (hb.mono h.below.size), Nat.lt_of_lt_of_le h.lt hb.size, by rw [hb.block _ h.lt]; exact h.box⟩
theorem VS.set {w0 w : World} {bx : List Value} {l : List UInt8} (h : VS w0 w bx l) (j : Nat) (c : UInt8) : VS w0 (w.setCell ⟨w0.heap.size + 1, j, none⟩ (BV c)) bx (l.set j c) := by
 have hO := h.own
 rw [h.len] at hO
 have h2 := hO.set j c
 have e : (l.set j c).length = l.length := List.length_set
 refine ⟨?_, by rw [e]; exact h.len, h.below.setCell (by simp) _, by simpa using h.lt, ?_⟩
 . rw [e] at h2; rw [h.len]; exact h2
 . rw [heap_setCell_other w ⟨w0.heap.size + 1, j, none⟩ w0.heap.size _ (by simp)]; exact h.box
theorem VS.byte {w0 w : World} {bx : List Value} {l : List UInt8} (h : VS w0 w bx l) (j : Nat) (hj : j < 2048) : (∃ b, w.cell? ⟨w0.heap.size + 1, j, none⟩ = some (BV b)) /\ w.frozen? ⟨w0.heap.size + 1, j, none⟩ = false := by
 have hO := h.own
 rw [h.len] at hO hj
 exact ⟨⟨_, hO.cell j hj⟩, hO.unfrozen j⟩
theorem rd_nil (w : World) (B : Nat) : Rd w B (.slice none 0 0) [] := ⟨none, 0, rfl, (fun ad e => by cases e), (fun j u hu => by simp [BVs] at hu)⟩
theorem set_splice (l : List UInt8) (j : Nat) (c : UInt8) (h : j < l.length) : l.set j c = splice l j [c] := by
 rw [splice, List.set_eq_take_append_cons_drop, if_pos h]; rfl
def layB (out : List UInt8) (l : List (Nat × List UInt8)) : List UInt8 := l.foldl (fun o x => splice o x.1 x.2) out
theorem layB_length (l : List (Nat × List UInt8)) (out : List UInt8) (h : ∀ x ∈ l, x.1 + x.2.length <= out.length) : (layB out l).length = out.length := by
 induction l generalizing out with
 | nil => rfl
 | cons x l ih =>
   have e := length_splice out x.1 x.2 (h x (by simp))
   simp only [layB, List.foldl_cons]
   exact (ih _ (fun y hy => by rw [e]; exact h y (by simp [hy]))).trans e
theorem layB_keep (l : List (Nat × List UInt8)) (out : List UInt8) (h : ∀ x ∈ l, x.1 + x.2.length <= out.length) (a : Nat) (c : List UInt8) (hc : Holds out a c)
 (hd : ∀ x ∈ l, x.1 + x.2.length <= a \/ a + c.length <= x.1) : Holds (layB out l) a c := by
 induction l generalizing out with
 | nil => exact hc
 | cons x l ih =>
   have e := length_splice out x.1 x.2 (h x (by simp))
   simp only [layB, List.foldl_cons]
   exact ih _ (fun y hy => by rw [e]; exact h y (by simp [hy])) (hc.other _ _ (h x (by simp)) (hd x (by simp))) (fun y hy => hd y (by simp [hy]))
theorem layB_holds (l m : List (Nat × List UInt8)) (x : Nat × List UInt8) (out : List UInt8) (h : ∀ y ∈ l ++ x :: m, y.1 + y.2.length <= out.length) (hd : ∀ y ∈ m, y.1 + y.2.length <= x.1 \/ x.1 + x.2.length <= y.1) : Holds (layB out (l ++ x :: m)) x.1 x.2 := by
 have e : layB out (l ++ x :: m) = layB (splice (layB out l) x.1 x.2) m := by simp [layB]
 have hl := layB_length l out (fun y hy => h y (by simp [hy]))
 have hs := length_splice (layB out l) x.1 x.2 (by rw [hl]; exact h x (by simp))
 rw [e]
 exact layB_keep m _ (fun y hy => by rw [hs, hl]; exact h y (by simp [hy])) _ _ (Holds.here _ _ _ (by rw [hl]; exact h x (by simp))) hd
def nul17 : List UInt8 := [48, 48, 48, 48, 48, 48, 48, 48, 48, 48, 48, 48, 48, 48, 48, 48, 0]
def tim17 : List UInt8 := [50, 48, 50, 48, 48, 49, 48, 49, 48, 48, 48, 48, 48, 48, 48, 48, 0]
def nulLays (i : Nat) : List (Nat × List UInt8) := (List.range i).map (fun i => (813 + 17 * i, nul17))
theorem nulLays_succ (out : List UInt8) (i : Nat) : layB out (nulLays (i + 1)) = splice (layB out (nulLays i)) (813 + 17 * i) nul17 := by
 rw [nulLays, List.range_succ, List.map_append, layB, List.foldl_append]; rfl
def pvdLays (vol : List UInt8) (rec34 : List UInt8) (blk pt li bi : Nat) : List (Nat × List UInt8) :=
 [(0, [1, 67, 68, 48, 48, 49, 1]), (8, padL [] 32), (40, vol ++ List.replicate (32 - vol.length) 32), (80, both32 blk), (120, both16 1), (124, both16 1), (128, both16 2048), (132, both32 pt), (140, (both32 li).take 4), (148, ((both32 bi).drop 4).take 4), (156, rec34), (190, padL [] 623),
  (813, nul17), (830, nul17), (847, nul17), (864, nul17), (813, tim17), (830, tim17), (881, [1])]
def pvdB (vol : List UInt8) (rec34 : List UInt8) (blk pt li bi : Nat) : List UInt8 := layB (List.replicate 2048 0) (pvdLays vol rec34 blk pt li bi)
theorem rd_part (w : World) (l : List UInt8) (k q c : Nat) (m : List UInt8) (hm : m = (l.drop k).take q) : Rd (w.alloc (.cells (BVs l).toArray 5)) (w.heap.size + 1) (.slice (some ⟨w.heap.size, k, none⟩) m.length c) m := by
 refine ⟨_, _, rfl, (by intro ad e; cases e; exact Nat.lt_succ_self _), fun j u hu => ⟨_, rfl, ?_⟩⟩
 rw [Addr.add_mid]
 have hg : (w.alloc (.cells (BVs l).toArray 5)).heap[w.heap.size]? = some (.cells (BVs l).toArray 5) := by
  show (w.heap.push _)[w.heap.size]? = _; rw [Array.getElem?_push_size]
 simp only [World.cell?, hg]
 subst hm
 have hj : j < ((l.drop k).take q).length := by
  have := (List.getElem?_eq_some_iff.1 hu).1
  rwa [length_BVs] at this
 rw [BVs_get _ _ hj] at hu
 cases hu
 have hkj : k + j < l.length := by simp at hj; omega
 simp [BVs, hkj]
theorem isoVolume_any (vol : ByteArray) (x : XNode) (blk pt li bi : Nat) (w : World) (hv : vol.size <= 32) (h1 : blk < 4294967296) (h2 : pt < 4294967296) (h3 : li < 4294967296) (h4 : bi < 4294967296) (h5 : x.extent < 4294967296) (h6 : x.size < 4294967296) (h7 : -9223372036854775808 <= x.f.time) (h8 : x.f.time <= 9223372036854775807) :
 Calls Tryz.prog 35 #[.string vol, .agg x.cells.toArray, .int .u32 blk, .int .u32 pt, .int .u32 li, .int .u32 bi] w fun e w' => e = .returned (.slice (some ⟨w.heap.size + 1, 0, none⟩) 2048 2048) /\ Own w' w.heap.size (.slice (some ⟨w.heap.size + 1, 0, none⟩) 2048 2048) (pvdB vol.data.toList (isoRec [0] x.extent x.size x.f.time true []) blk pt li bi) /\ Below w.heap.size w w' := by
 go_enter Tryz.func35, Tryz.ntmps35
 go_wp2_with (first
  | (at_make; go_must (refine asList rfl fun KK hKK => ?_); go_must (refine go_makeN (w0 := w.alloc (.cells x.cells.toArray 64)) (.const (.int .i64 2048)) (.const (.int .i64 2048)) rfl (w.heap.size + 1) _ _ _ _ 2048 2048 rfl rfl (by rfl) (by rfl) (by omega) (by omega) (Below.refl _ _) (by simp) ?_); go_must (intro w1 L1 hL1 hl1 ho1 hb1 hs1); go_must (refine hKK _ _ ?_); clear hKK KK; have V1 : VS w w1 x.cells L1 := ⟨by simpa using ho1.lower (Nat.le_succ _), hl1.symm, ((Below.refl _ _).alloc (Nat.le_refl _) _).trans (hb1.mono (Nat.le_succ _)), by simp at hs1; omega, by rw [hb1.block _ (Nat.lt_succ_self _)]; show (w.heap.push _)[w.heap.size]? = _; rw [Array.getElem?_push_size]⟩)
  | (refine atCopy ?_; go_must (refine asList rfl fun KK hKK => ?_); go_must (refine V1.copyStr (.tmp 16) (.const (.string ⟨#[1, 67, 68, 48, 48, 49, 1]⟩)) rfl 0 2048 2048 ⟨#[1, 67, 68, 48, 48, 49, 1]⟩ rfl (by decide) (by decide) rfl ?_); go_must (intro w2 L2 hL2 V2); refine hKK _ _ ?_; clear hKK KK))
 go_region_held3 (fun _ => True) (trivial) (first
  | (go_at_call 57; go_must (refine (padded_any ⟨#[]⟩ 32 _ (by decide) (by omega)).mono ?_); go_must (rintro e u3 ⟨g3, c3, rfl, hF3, hb3⟩))
  | (refine asStep rfl ?_; refine V2.copyRd (.tmp 19) (.tmp 20) rfl 8 2040 2040 32 _ (padL [] 32) _ rfl (by first | exact ((Below.refl _ _).drew).trans hb3 | exact hb3) (by rfl) (by decide) (by decide) rfl (by exact hF3.rd) ?_; intro w3 L3 hL3 V3))
 go_wp2_with fail
 go_region_held3 (fun _ => True) (trivial) (first
  | (go_at_call 57; go_must (refine (padded_any vol 32 _ hv (by omega)).mono ?_); go_must (rintro e u4 ⟨g4, c4, rfl, hF4, hb4⟩))
  | (refine asStep rfl ?_; refine V3.copyRd (.tmp 23) (.tmp 25) rfl 40 2008 2008 32 _ (vol.data.toList ++ List.replicate (32 - vol.size) 32) _ rfl (by first | exact ((Below.refl _ _).drew).trans hb4 | exact hb4) (by rw [List.length_append, List.length_replicate, Array.length_toList]; have : vol.data.size = vol.size := rfl; omega) (by decide) (by decide) rfl (by exact hF4.rd) ?_; intro w4 L4 hL4 V4))
 go_wp2_with fail
 go_region_held3 (fun _ => True) (trivial) (first
  | (go_at_call 58; go_must (refine (both32_any blk _ h1).mono ?_); go_must (rintro e w' ⟨rfl, rfl⟩))
  | (refine asStep rfl ?_; refine V4.copyRd (.tmp 28) (.tmp 30) rfl 80 1968 1968 8 _ (both32 blk) _ rfl (by first | exact ((Below.refl _ _).alloc (Nat.le_refl _) _).drew | exact (((Below.refl _ _).drew).alloc (Nat.le_refl _) _) | exact ((Below.refl _ _).alloc (Nat.le_refl _) _)) (by rfl) (by decide) (by decide) rfl (by exact rd_lit _ (both32 blk) (by simp [length_both32])) ?_; intro w5 L5 hL5 V5))
 go_wp2_with fail
 go_region_held3 (fun _ => True) (trivial) (first
  | (go_at_call 59; go_must (refine (both16_any 1 _ (by omega)).mono ?_); go_must (rintro e w' ⟨rfl, rfl⟩))
  | (refine asStep rfl ?_; refine V5.copyRd (.tmp 33) (.tmp 34) rfl 120 1928 1928 4 _ (both16 1) _ rfl (by first | exact ((Below.refl _ _).alloc (Nat.le_refl _) _).drew | exact (((Below.refl _ _).drew).alloc (Nat.le_refl _) _) | exact ((Below.refl _ _).alloc (Nat.le_refl _) _)) (by rfl) (by decide) (by decide) rfl (by exact rd_lit _ (both16 1) (by simp [length_both16])) ?_; intro w6 L6 hL6 V6))
 go_wp2_with fail
 go_region_held3 (fun _ => True) (trivial) (first
  | (go_at_call 59; go_must (refine (both16_any 1 _ (by omega)).mono ?_); go_must (rintro e w' ⟨rfl, rfl⟩))
  | (refine asStep rfl ?_; refine V6.copyRd (.tmp 37) (.tmp 38) rfl 124 1924 1924 4 _ (both16 1) _ rfl (by first | exact ((Below.refl _ _).alloc (Nat.le_refl _) _).drew | exact (((Below.refl _ _).drew).alloc (Nat.le_refl _) _) | exact ((Below.refl _ _).alloc (Nat.le_refl _) _)) (by rfl) (by decide) (by decide) rfl (by exact rd_lit _ (both16 1) (by simp [length_both16])) ?_; intro w7 L7 hL7 V7))
 go_wp2_with fail
 go_region_held3 (fun _ => True) (trivial) (first
  | (go_at_call 59; go_must (refine (both16_any 2048 _ (by omega)).mono ?_); go_must (rintro e w' ⟨rfl, rfl⟩))
  | (refine asStep rfl ?_; refine V7.copyRd (.tmp 41) (.tmp 42) rfl 128 1920 1920 4 _ (both16 2048) _ rfl (by first | exact ((Below.refl _ _).alloc (Nat.le_refl _) _).drew | exact (((Below.refl _ _).drew).alloc (Nat.le_refl _) _) | exact ((Below.refl _ _).alloc (Nat.le_refl _) _)) (by rfl) (by decide) (by decide) rfl (by exact rd_lit _ (both16 2048) (by simp [length_both16])) ?_; intro w8 L8 hL8 V8))
 go_wp2_with fail
 go_region_held3 (fun _ => True) (trivial) (first
  | (go_at_call 58; go_must (refine (both32_any pt _ h2).mono ?_); go_must (rintro e w' ⟨rfl, rfl⟩))
  | (refine asStep rfl ?_; refine V8.copyRd (.tmp 45) (.tmp 47) rfl 132 1916 1916 8 _ (both32 pt) _ rfl (by first | exact ((Below.refl _ _).alloc (Nat.le_refl _) _).drew | exact (((Below.refl _ _).drew).alloc (Nat.le_refl _) _) | exact ((Below.refl _ _).alloc (Nat.le_refl _) _)) (by rfl) (by decide) (by decide) rfl (by exact rd_lit _ (both32 pt) (by simp [length_both32])) ?_; intro w9 L9 hL9 V9))
 go_wp2_with fail
 go_region_held3 (fun _ => True) (trivial) (first
  | (go_at_call 58; go_must (refine (both32_any li _ h3).mono ?_); go_must (rintro e w' ⟨rfl, rfl⟩))
  | (refine asStep rfl ?_; refine V9.copyRd (.tmp 50) (.tmp 53) rfl 140 1908 1908 4 _ ((both32 li).take 4) _ rfl (by first | exact ((Below.refl _ _).alloc (Nat.le_refl _) _).drew | exact (((Below.refl _ _).drew).alloc (Nat.le_refl _) _) | exact ((Below.refl _ _).alloc (Nat.le_refl _) _)) (by rfl) (by decide) (by decide) rfl (by exact rd_part _ (both32 li) 0 4 8 ((both32 li).take 4) rfl) ?_; intro w10 L10 hL10 V10))
 go_wp2_with fail
 go_region_held3 (fun _ => True) (trivial) (first
  | (go_at_call 58; go_must (refine (both32_any bi _ h4).mono ?_); go_must (rintro e w' ⟨rfl, rfl⟩))
  | (refine asStep rfl ?_; refine V10.copyRd (.tmp 56) (.tmp 59) rfl 148 1900 1900 4 _ (((both32 bi).drop 4).take 4) _ rfl (by first | exact ((Below.refl _ _).alloc (Nat.le_refl _) _).drew | exact (((Below.refl _ _).drew).alloc (Nat.le_refl _) _) | exact ((Below.refl _ _).alloc (Nat.le_refl _) _)) (by rfl) (by decide) (by decide) rfl (by exact rd_part _ (both32 bi) 4 4 4 _ rfl) ?_; intro w11 L11 hL11 V11))
 go_wp2_with fail
 have bx4 := V11.cell 11 _ rfl
 have bx5 := V11.cell 12 _ rfl
 have bx7 := V11.cell 7 _ rfl
 go_region_held3 (fun wr => wr.cell? ⟨w.heap.size, 11, none⟩ = some (.int .u32 x.extent) /\ wr.cell? ⟨w.heap.size, 12, none⟩ = some (.int .u32 x.size) /\ wr.cell? ⟨w.heap.size, 7, none⟩ = some (.int .i64 x.f.time)) (first | exact ⟨bx4, bx5, bx7⟩ | exact k12 | exact k13) (first
  | (go_at_call 56; go_must (refine (isoRecord_any ⟨#[0]⟩ x.extent x.size x.f.time true (.slice none 0 0) [] _ (by decide) h5 h6 h7 h8 (by decide) (rd_nil _ _)).mono ?_); go_must (rintro e u12 ⟨⟨v12, rfl, hF12⟩, hb12⟩); have k12 := And.intro ((V11.later (by first | exact hb12 | exact ((Below.refl _ _).drew).trans hb12)).cell 11 _ rfl) (And.intro ((V11.later (by first | exact hb12 | exact ((Below.refl _ _).drew).trans hb12)).cell 12 _ rfl) ((V11.later (by first | exact hb12 | exact ((Below.refl _ _).drew).trans hb12)).cell 7 _ rfl)))
  | (refine asStep rfl ?_; refine V11.copyRd (.tmp 62) (.tmp 70) rfl 156 1892 1892 34 _ (isoRec [0] x.extent x.size x.f.time true []) _ rfl (by first | exact ((Below.refl _ _).drew).trans hb12 | exact hb12) (by rw [isoRec_length]; rfl) (by decide) (by decide) rfl (by exact hF12.rd) ?_; intro w12 L12 hL12 V12; have k13 := And.intro (V12.cell 11 _ rfl) (And.intro (V12.cell 12 _ rfl) (V12.cell 7 _ rfl))))
 all_goals
  go_wp2_with fail
  go_region_held3 (fun _ => True) (trivial) (first
   | (go_at_call 57; go_must (refine (padded_any ⟨#[]⟩ 623 _ (by decide) (by omega)).mono ?_); go_must (rintro e u13 ⟨g13, c13, rfl, hF13, hb13⟩))
   | (refine asStep rfl ?_; refine V12.copyRd (.tmp 73) (.tmp 74) rfl 190 1858 1858 623 _ (padL [] 623) _ rfl (by first | exact ((Below.refl _ _).drew).trans hb13 | exact hb13) (by rfl) (by decide) (by decide) rfl (by exact hF13.rd) ?_; intro w13 L13 hL13 V13))
  go_wp2_with fail
  go_loopw [14, 76] (fun _ iv wr => ∃ (i : Nat) (L : List UInt8), i <= 4 /\ iv = .int .i64 i /\ VS w wr x.cells L /\ Hid (L = layB L13 (nulLays i))) (fun _ iv _ => 4 - (intOf iv).toNat)
  case atStart => exact ⟨0, L13, by omega, rfl, V13, rfl⟩
  case round =>
   obtain ⟨i, L, hi, rfl, hV, hL⟩ := hrel
   by_cases hlt : i < 4
   . go_wp2_with (refine atCopy ?_; go_must (refine asList rfl fun KK hKK => ?_); go_must (refine hV.copyStr (.tmp 83) (.const (.string ⟨#[48, 48, 48, 48, 48, 48, 48, 48, 48, 48, 48, 48, 48, 48, 48, 48, 0]⟩)) rfl (813 + 17 * i) (2048 - (813 + 17 * i)) (2048 - (813 + 17 * i)) ⟨#[48, 48, 48, 48, 48, 48, 48, 48, 48, 48, 48, 48, 48, 48, 48, 48, 0]⟩ ?_ (by show 17 <= _; omega) (by show _ + 17 <= _; omega) rfl ?_); rotate_left; go_must (intro w14 L14 hL14 V14); refine hKK _ _ ?_; clear hKK KK)
     . go_roundw
       case rel => exact ⟨i + 1, hlt, by simp, L14, V14, by unfold Hid; rw [nulLays_succ, hL14.out, hL.out]; rfl⟩
       case measure => simp [intOf]; omega
     . show Act.eval _ (.tmp 83) = _
       simp [Act.eval]
   . have hi4 : i = 4 := by omega
     subst hi4
     go_wp2_with (first
      | (refine atCopy ?_; refine asList rfl fun KK hKK => ?_; (refine V15.copyStr (.tmp 90) (.const (.string ⟨#[50, 48, 50, 48, 48, 49, 48, 49, 48, 48, 48, 48, 48, 48, 48, 48, 0]⟩)) rfl 830 1218 1218 ⟨#[50, 48, 50, 48, 48, 49, 48, 49, 48, 48, 48, 48, 48, 48, 48, 48, 0]⟩ rfl (by decide) (by decide) rfl ?_); go_must (intro w16 L16 hL16 V16); refine hKK _ _ ?_; clear hKK KK; obtain ⟨⟨b16, hc16⟩, hf16⟩ := V16.byte 881 (by decide))
      | (refine atCopy ?_; go_must (refine asList rfl fun KK hKK => ?_); go_must (refine hV.copyStr (.tmp 87) (.const (.string ⟨#[50, 48, 50, 48, 48, 49, 48, 49, 48, 48, 48, 48, 48, 48, 48, 48, 0]⟩)) rfl 813 1235 1235 ⟨#[50, 48, 50, 48, 48, 49, 48, 49, 48, 48, 48, 48, 48, 48, 48, 48, 0]⟩ rfl (by decide) (by decide) rfl ?_); go_must (intro w15 L15 hL15 V15); refine hKK _ _ ?_; clear hKK KK))
     go_ret
     have V17 := V16.set 881 1
     have e : L16.set 881 1 = pvdB vol.data.toList (isoRec [0] x.extent x.size x.f.time true []) blk pt li bi := by
      have hv' : vol.data.toList.length = vol.size := by rw [Array.length_toList]; rfl
      rw [set_splice _ _ _ (by have := V16.len; omega), hL16.out, hL15.out, hL.out, hL13.out, hL12.out, hL11.out, hL10.out, hL9.out, hL8.out, hL7.out, hL6.out, hL5.out, hL4.out, hL3.out, hL2.out, hL1.out]
      unfold pvdB pvdLays
      rw [hv']
      rfl
     rw [e] at V17
     exact ⟨rfl, V17.own, V17.below⟩
structure OR (w : World) (R V : Nat) (A : Option Addr) (c : Nat) (l : List UInt8) (n : Nat) : Prop where
 heap : w.heap[V]? = some (.cells #[.slice A n c] 27)
 own : Own w R (.slice A n c) l
 len : l.length = n
 lt : V < R
 le : R <= w.heap.size
structure KeptX (R V : Nat) (w w' : World) : Prop where
 os : w'.os = w.os
 tape : w'.tape = w.tape
 output : w'.output = w.output
 size : w.heap.size <= w'.heap.size
 block : ∀ k, k < R -> k ≠ V -> w'.heap[k]? = w.heap[k]?
theorem KeptX.trans {R V : Nat} {a b c : World} (h : KeptX R V a b) (k : KeptX R V b c) : KeptX R V a c :=
 ⟨k.os.trans h.os, k.tape.trans h.tape, k.output.trans h.output, Nat.le_trans h.size k.size, fun j h1 h2 => (k.block j h1 h2).trans (h.block j h1 h2)⟩
theorem KeptX.of {R V : Nat} {w w' : World} (h : Below R w w') : KeptX R V w w' := ⟨h.os, h.tape, h.output, h.size, fun k hk _ => h.block k hk⟩
theorem KeptX.setCell {R V : Nat} {w w' : World} (h : KeptX R V w w') (u : Value) : KeptX R V w (w'.setCell ⟨V, 0, none⟩ u) :=
 h.trans ⟨rfl, rfl, rfl, by simp, fun k _ hk => by rw [heap_setCell_other w' ⟨V, 0, none⟩ k _ hk]⟩
theorem KeptX.below {R V B : Nat} {w w' : World} (h : KeptX R V w w') (h1 : B <= V) (h2 : B <= R) : Below B w w' := ⟨h.os, h.tape, h.output, h.size, fun k hk => h.block k (by omega) (by omega)⟩
theorem OR.cell {w : World} {R V c n : Nat} {A : Option Addr} {l : List UInt8} (h : OR w R V A c l n) : w.cell? ⟨V, 0, none⟩ = some (.slice A n c) := by simp [World.cell?, h.heap]
theorem OR.later {w w' : World} {R V c n : Nat} {A : Option Addr} {l : List UInt8} (h : OR w R V A c l n) (hb : Below w.heap.size w w') : OR w' R V A c l n :=
 ⟨by rw [hb.block V (Nat.lt_of_lt_of_le h.lt h.le)]; exact h.heap, h.own.later hb, h.len, h.lt, Nat.le_trans h.le hb.size⟩
theorem OR.app {w w' : World} {R V c c' n n' : Nat} {A A' : Option Addr} {l l' : List UInt8} (h : OR w R V A c l n) (hO : Own w' R (.slice A' n' c') l') (hl : l'.length = n') (hg : w.grownBy w' (Value.slice A n c).ownBlock) :
 OR (w'.setCell ⟨V, 0, none⟩ (.slice A' n' c')) R V A' c' l' n' /\ w'.cell? ⟨V, 0, none⟩ = some (.slice A n c) /\ w'.frozen? ⟨V, 0, none⟩ = false := by
 have hV : w'.heap[V]? = some (.cells #[.slice A n c] 27) := by
  rw [hg.block V (Nat.lt_of_lt_of_le h.lt h.le) (fun e => by have := (World.ownsRow.lt h.own V e.symm).1; have := h.lt; omega)]; exact h.heap
 refine ⟨⟨?_, ?_, hl, h.lt, Nat.le_trans h.le (by simpa using hg.size)⟩, by simp [World.cell?, hV], by simp [World.frozen?, hV]⟩
 . have := heap_setCell_same w' V 0 #[.slice A n c] 27 (.slice A' n' c') hV
   simpa using this
 . refine ⟨hO.1, hO.2.imp id fun ⟨g, cap, cur, hv, h1, h2, h3⟩ => ⟨g, cap, cur, hv, h1, ?_, h3⟩⟩
   rw [heap_setCell_other w' ⟨V, 0, none⟩ g _ (by intro e; have e' : g = V := e; have := h.lt; omega)]
   exact h2
theorem Own.push {w w' : World} {V M n c : Nat} {A : Option Addr} {y u : Value} {m : List UInt8} (hy : Own w M y m) (hA : ∀ k, (Value.slice A n c).ownBlock = some k -> k < M) (hV : V < M) (hg : w.grownBy w' (Value.slice A n c).ownBlock) : Own (w'.setCell ⟨V, 0, none⟩ u) M y m := by
 refine ⟨hy.1, hy.2.imp id fun ⟨g, cap, cur, hv, h1, h2, h3⟩ => ⟨g, cap, cur, hv, h1, ?_, h3⟩⟩
 rw [heap_setCell_other w' ⟨V, 0, none⟩ g _ (by intro e; have e' : g = V := e; omega)]
 rw [hg.block g (Array.getElem?_eq_some_iff.1 h2).1 (fun e => by have := hA g e.symm; omega)]
 exact h2
theorem go_appR {o : Oper} {a : Act} {w : World} {K : Act -> World -> Prop} {Q : Exit -> Act -> World -> Prop} (s x : Operand) (ho : o.op = .call { callee := .builtin .append, args := #[s, x], argTypes := #[27, 27] })
 (B B' n q c : Nat) (A : Option Addr) (y : Value) (l m : List UInt8) (hn : n = l.length) (hs : a.eval s = .slice A n c) (hown : Own w B (.slice A n c) l) (hq : q = m.length)
 (hx : a.eval x = y) (hrd : Rd w B' y m) (hlen : n + q <= 1000000000) (hB : B <= w.heap.size)
 (h : ∀ A' c' w', Own w' B (.slice A' (n + q) c') (l ++ m) -> Below B w w' -> w.grownBy w' (Value.slice A n c).ownBlock -> K (a.put o.dst (.slice A' (n + q) c')) w') :
 Oper.wp Tryz.prog o a w K Q := by
 subst hn; subst hq
 refine wp_appB_of Tryz.underlying27 info5 s x ho B B' _ y l m hs hown hx hrd hlen hB ?_
 intro A' c' w' L hL h1 h2 hO hg hb
 have e := hL.out
 subst e
 rw [List.length_append] at hO
 rw [List.length_append]
 exact h A' c' w' hO hb hg
theorem addRec_pad {l m : List UInt8} {n q : Nat} (hn : l.length = n) (hq : m.length = q) (h : 2048 < n % 2048 + q) : addRec l m = l ++ List.replicate (2048 - n % 2048) 0 ++ m := by
 subst hn; subst hq; unfold addRec; rw [if_pos h]; rfl
theorem addRec_fit {l m : List UInt8} {n q : Nat} (hn : l.length = n) (hq : m.length = q) (h : ¬ 2048 < n % 2048 + q) : addRec l m = l ++ m := by
 subst hn; subst hq; unfold addRec; rw [if_neg h]
theorem add_any (V R M n q c cy : Nat) (A Ay : Option Addr) (l m : List UInt8) (w : World) (hV : OR w R V A c l n) (hq : m.length = q) (hy : Own w M (.slice Ay q cy) m) (hA : ∀ k, (Value.slice A n c).ownBlock = some k -> k < M) (hVM : V < M) (hq1 : q <= 2048) (hn1 : n <= 900000000) :
 Calls Tryz.prog 53 #[.slice Ay q cy, .pointer (some ⟨V, 0, none⟩)] w fun e w' => ∃ A' c' n', e = .returned (.tuple #[]) /\ OR w' R V A' c' (addRec l m) n' /\ n' <= n + 4096 /\ KeptX R V w w' := by
 have hcV := hV.cell
 have hB := hV.le
 have HV := Lib.hid hV; have HQ := Lib.hid hq; have HY := Lib.hid hy; have HA := Lib.hid hA
 clear hV hq hy hA
 go_enter Tryz.func53, Tryz.ntmps53
 by_cases hp : 2048 < n % 2048 + q
 . go_wp2_with (first
    | (at_builtin; refine asList rfl fun KK hKK => ?_; refine go_appR (.tmp 16) (.tmp 17) rfl R (w1.setCell ⟨V, 0, none⟩ (.slice A1 (n + (2048 - n % 2048)) c1)).heap.size (n + (2048 - n % 2048)) q c1 A1 _ (l ++ List.replicate (2048 - n % 2048) 0) m HV1.out.len.symm rfl HV1.out.own HQ.out.symm rfl HY1.out.rd (by omega) HV1.out.le ?_; intro A2 c2 w2 hO2 hb2 hg2; refine hKK _ _ ?_; clear hKK KK; obtain ⟨hV2, hcV2, hfV2⟩ := HV1.out.app hO2 (by rw [List.length_append, HV1.out.len, HQ.out]) hg2; have HV2 := Lib.hid hV2; clear hV2)
    | (at_builtin; refine asList rfl fun KK hKK => ?_; refine go_appZ (.tmp 10) (.tmp 14) rfl R n c (2048 - n % 2048) A l HV.out.len.symm rfl HV.out.own _ rfl (by omega) (by omega) (by omega) hB ?_; intro A1 c1 w1 hO1 hb1 hg1; refine hKK _ _ ?_; clear hKK KK; obtain ⟨hV1, hcV1, hfV1⟩ := HV.out.app hO1 (by rw [List.length_append, HV.out.len, List.length_replicate]) hg1; have hcV1' := hV1.cell; have HV1 := Lib.hid hV1; have HY1 := Lib.hid (HY.out.push (u := .slice A1 (n + (2048 - n % 2048)) c1) HA.out hVM hg1); clear hV1))
   refine bodyPost_end (v := .tuple #[]) (by simp [results, Tryz.f53]) rfl ⟨A2, c2, _, rfl, by rw [addRec_pad HV.out.len HQ.out hp]; exact HV2.out, by omega, ?_⟩
   exact ((((KeptX.of hb1).setCell _).trans (KeptX.of hb2)).setCell _)
 . go_wp2_with (first
    | (at_builtin; refine asList rfl fun KK hKK => ?_; refine go_appR (.tmp 16) (.tmp 17) rfl R w.heap.size n q c A _ l m HV.out.len.symm rfl HV.out.own HQ.out.symm rfl HY.out.rd (by omega) hB ?_; intro A2 c2 w2 hO2 hb2 hg2; refine hKK _ _ ?_; clear hKK KK; obtain ⟨hV2, hcV2, hfV2⟩ := HV.out.app hO2 (by rw [List.length_append, HV.out.len, HQ.out]) hg2; have HV2 := Lib.hid hV2; clear hV2))
   refine bodyPost_end (v := .tuple #[]) (by simp [results, Tryz.f53]) rfl ⟨A2, c2, _, rfl, by rw [addRec_fit HV.out.len HQ.out hp]; exact HV2.out, by omega, ?_⟩
   exact (KeptX.of hb2).setCell _
theorem go_appV {o : Oper} {a : Act} {w wa : World} {K : Act -> World -> Prop} {Q : Exit -> Act -> World -> Prop} {t e bz : Nat} (ht : Tryz.prog.underlying t = some (.slice e)) (hinfo : (Tryz.prog.info? e).map (fun i => (i.zero.map (·.cells.size), i.size, i.bytes)) = some (some 1, 1, bz)) (hbz : bz <= 16)
 (s x : Operand) (ho : o.op = .call { callee := .builtin .append, args := #[s, x], argTypes := #[t, t] })
 (B N n : Nat) (A : Option Addr) (co : Nat) (us : List Value) (u : Value) (hn : n = us.length) (hs : a.eval s = .slice A n co) (hO : w.ownsRow B e 1 (.slice A n co) n us)
 (hwa : Below w.heap.size w wa) (hwc : wa.heap[w.heap.size]? = some (.cells #[u] e)) (hsz : w.heap.size = N) (hx : a.eval x = .slice (some ⟨N, 0, none⟩) 1 1) (h1 : u.oneCell' = true) (hlen : n <= 4000000000) (hB : B <= w.heap.size)
 (h : ∀ A' c' w', w'.ownsRow B e 1 (.slice A' (n + 1) c') (n + 1) (us ++ [u]) -> Below B w w' -> w.grownBy w' (Value.slice A n co).ownBlock -> K (a.put o.dst (.slice A' (n + 1) c')) w') :
 Oper.wp Tryz.prog o a wa K Q := by
 obtain ⟨i, hi, hz'⟩ : ∃ i, Tryz.prog.info? e = some i /\ (i.zero.map (·.cells.size), i.size, i.bytes) = (some 1, 1, bz) := by
  cases hq : Tryz.prog.info? e with
  | none => rw [hq] at hinfo; simp at hinfo
  | some i => rw [hq] at hinfo; exact ⟨i, rfl, by simpa using hinfo⟩
 obtain ⟨z, hz, hzs⟩ : ∃ z, i.zero = some z /\ z.cells.size = 1 := by
  cases hq : i.zero with
  | none => rw [hq] at hz'; simp at hz'
  | some z => rw [hq] at hz'; exact ⟨z, rfl, by simpa using (Prod.mk.inj hz').1⟩
 have hsi : i.size = 1 := (Prod.mk.inj (Prod.mk.inj hz').2).1
 have hby : i.bytes = bz := (Prod.mk.inj (Prod.mk.inj hz').2).2
 subst hsz
 have hO1 : wa.ownsRow B e 1 (.slice A n co) n us := ownsRow_later hO hwa
 have hB1 : B <= wa.heap.size := Nat.le_trans hB hwa.size
 refine wp_append_own (P := Tryz.prog) _ s x t ho B e i z 1 bz ht hi hz hsi hby hzs (by decide) _ _ _ hs hO1 ⟨w.heap.size, 0, none⟩ 1 1 [u] hx rfl ?_ ?_ (by unfold maxLen; omega) ?_ hB1 ?_
 . intro j v hv
   rw [Addr.add_mid, Nat.zero_add]
   simp only [World.cell?, hwc]
   simpa using hv
 . intro v hv
   rw [List.mem_singleton] at hv; subst hv; exact h1
 . have : (n + 1) * bz <= (n + 1) * 16 := Nat.mul_le_mul_left _ hbz
   omega
 . intro v' w' hrow hgr _
   obtain ⟨A', c', rfl, _, _⟩ := ownsRow_shape hrow
   refine h A' c' w' hrow ((hwa.mono hB).grown hgr hB1 (fun k hk => (World.ownsRow.lt hO1 k hk).1)) ?_
   exact ⟨hgr.os.trans hwa.os, hgr.tape.trans hwa.tape, hgr.output.trans hwa.output, Nat.le_trans hwa.size hgr.size, fun k hk hr => by
    rw [hgr.block k (Nat.lt_of_lt_of_le hk hwa.size) hr]; exact hwa.block k hk⟩
def Boxes (w : World) (T : TypeId) (bs : List Nat) (es : List (List Value)) : Prop := bs.length = es.length /\ ∀ k (h : k < bs.length) (h' : k < es.length), w.heap[bs[k]]? = some (.cells es[k].toArray T)
theorem Boxes.nil (w : World) (T : TypeId) : Boxes w T [] [] := ⟨rfl, fun k h => by cases h⟩
theorem Boxes.lt {w : World} {T : TypeId} {bs : List Nat} {es : List (List Value)} (h : Boxes w T bs es) (b : Nat) (hb : b ∈ bs) : b < w.heap.size := by
 obtain ⟨k, hk, e⟩ := List.mem_iff_getElem.1 hb
 have := h.2 k hk (by rw [<- h.1]; exact hk)
 rw [e] at this
 exact (Array.getElem?_eq_some_iff.1 this).1
theorem Boxes.later {w w' : World} {T : TypeId} {bs : List Nat} {es : List (List Value)} (h : Boxes w T bs es) (hb : Below w.heap.size w w') : Boxes w' T bs es :=
 ⟨h.1, fun k hk hk' => by rw [hb.block _ (h.lt _ (List.getElem_mem hk))]; exact h.2 k hk hk'⟩
theorem Boxes.grown {w w' : World} {T e B n co : Nat} {A : Option Addr} {us : List Value} {bs : List Nat} {es : List (List Value)} (h : Boxes w T bs es) (hO : w.ownsRow B e 1 (.slice A n co) n us) (hne : T ≠ e) (hg : w.grownBy w' (Value.slice A n co).ownBlock) : Boxes w' T bs es := by
 refine ⟨h.1, fun k hk hk' => ?_⟩
 rw [hg.block _ (h.lt _ (List.getElem_mem hk)) ?_]
 . exact h.2 k hk hk'
 . intro e'
   rcases hO.2 with ⟨hv, _⟩ | ⟨g, cap, cur, hv, _, hg', _⟩
   . rw [hv] at e'; simp [Value.ownBlock] at e'
   . rw [hv] at e'
     simp only [Value.ownBlock, Option.some.injEq] at e'
     have := h.2 k hk hk'
     rw [e', hg'] at this
     simp at this
     exact hne this.2.symm
theorem Boxes.snoc {w : World} {T : TypeId} {bs : List Nat} {es : List (List Value)} {b : Nat} {x : List Value} (h : Boxes w T bs es) (hb : w.heap[b]? = some (.cells x.toArray T)) : Boxes w T (bs ++ [b]) (es ++ [x]) := by
 refine ⟨by simp [h.1], fun k hk hk' => ?_⟩
 rw [List.length_append, List.length_singleton] at hk hk'
 by_cases hlt : k < bs.length
 . rw [List.getElem_append_left hlt, List.getElem_append_left (by rw [<- h.1]; exact hlt)]
   exact h.2 k hlt (by rw [<- h.1]; exact hlt)
 . have e1 : k = bs.length := by omega
   subst e1
   have e2 : bs.length = es.length := h.1
   simp only [List.getElem_concat_length]
   have : (es ++ [x])[bs.length]'(by simp; omega) = x := by simp [e2]
   rw [this]; exact hb
theorem go_makeV {o : Oper} {a : Act} {w : World} {K : Act -> World -> Prop} {Q : Exit -> Act -> World -> Prop} {t e bz : Nat} (ht : Tryz.prog.underlying t = some (.slice e)) (hinfo : (Tryz.prog.info? e).map (fun i => (i.zero.map (·.cells.size), i.size, i.bytes)) = some (some 1, 1, bz)) (hbz : bz <= 16)
 (l c : Operand) (ho : o.op = Op.makeSlice t l c) (B : Nat) (kl kc : IntKind) (m : Nat) (hl : a.eval l = .int kl 0) (hc : a.eval c = .int kc (m : Int)) (hm : m <= 1000000) (hB : B <= w.heap.size)
 (h : ∀ w', w'.ownsRow B e 1 (.slice (some ⟨w.heap.size, 0, none⟩) 0 m) 0 [] -> Below B w w' -> w'.heap.size = w.heap.size + 1 -> K (a.put o.dst (.slice (some ⟨w.heap.size, 0, none⟩) 0 m)) w') :
 Oper.wp Tryz.prog o a w K Q := by
 obtain ⟨i, z, hi, hz, hzs, hsi, hby⟩ := infoz hinfo
 have hb16 : m * bz <= m * 16 := Nat.mul_le_mul_left _ hbz
 have hr := run_make (P := Tryz.prog) w t e i z ht hi hz kl kc ((0 : Nat) : Int) m (by omega) (by omega) (by rw [hby, Int.mul_comm]; omega) (by omega)
 simp only [Int.toNat_natCast, hsi, Nat.mul_one] at hr
 unfold Oper.wp
 have hl' : a.eval l = .int kl ((0 : Nat) : Int) := hl
 simp only [execOp, ho, hl', hc, hr, Sem.run_bind, Sem.run_pure, Result.andThen_ok]
 refine h _ ?_ ((Below.refl B w).alloc hB _) (by simp)
 exact ⟨by simp, .inr ⟨w.heap.size, m, _, rfl, hB, heap_alloc_new w _, by omega, by unfold maxLen; omega, by simp [size_madeCells, hzs], by simp⟩⟩
abbrev PB (b : Nat) : Value := .pointer (some ⟨b, 0, none⟩)
end Go.Proofs.YtilgpaeeleknhaaGreatDoor
