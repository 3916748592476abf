/-
  DERIVED. A part of the proof of laws.FnIsoPaths (for every input the law returns true and each argument reads as before; the listed variables read as listed when the call begins). It holds:
  · copy(b[k:], "..."), as one step.
  · copy(b[k:], y) into a row of a fixed length, in whatever world stands behind what made y.
-/
import Derived.Test.YtilgpaeeleknhaaGreatDoorIq16
import Derived.Lib.BufferWrite
section
namespace Go.Proofs.YtilgpaeeleknhaaGreatDoor
open Go Go.RowKit
set_option linter.unusedSimpArgs false
set_option linter.unusedVariables false

theorem wp_copyStr_of {P : Program} {o : Oper} {a : Act} {w : World} {K : Act → World → Prop} {Q : Exit → Act → World → Prop} (h27 : P.underlying 27 = some (.slice 5)) (h5 : (P.info? 5).map (fun i => (i.zero, i.size, i.bytes)) = some (some (.int .u8 0), 1, 1)) (d s : Operand)
    (ho : o.op = .call { callee := .builtin .copy, args := #[d, s], argTypes := #[27, 9] })
    (B g off cap dl dc n : Nat) (l : List UInt8) (t : ByteArray) (hd : a.eval d = .slice (some ⟨g, off, none⟩) dl dc) (hn : n = l.length) (hown : Own w B (.slice (some ⟨g, 0, none⟩) n cap) l) (hdl : t.size ≤ dl) (hfit : off + t.size ≤ n)
    (hs : a.eval s = .string t)
    (h : ∀ w', Own w' B (.slice (some ⟨g, 0, none⟩) n cap) (splice l off t.data.toList) → Below B w w' → w.grownBy w' (some g) → K (a.put o.dst (goInt t.size)) w') :
    Oper.wp P o a w K Q := by
  subst hn
  obtain ⟨i, hi, hz, hsz, hby⟩ := info_parts h5
  rcases hown.2 with ⟨hv, h0⟩ | ⟨g', cap', cur, hv, hBg, hg, hnc, hcm, hcs, htake⟩
  · cases hv
  injection hv with hv1 hv2 hv3
  injection hv1 with hv1
  injection hv1 with hv1 _ _
  subst hv1; subst hv3
  have hsz1 : (P.info? 5).map (·.size) = some 1 := by simp [hi, hsz]
  generalize hm : t.data.toList = m at h
  have hml : m.length = t.size := by rw [← hm, Array.length_toList]; rfl
  have hll : (splice l off m).length = l.length := length_splice l off m (by omega)
  have hcs' : cur.size = cap := by simpa using hcs
  have hrun := Lib.run_copy_row_string (P := P) w 27 9 o.type 5 g off dl dc t cur 5 h27 hsz1 hg hdl (by omega)
  have hbc : Lib.byteCells t.data.toList = BVs m := by rw [hm]; rfl
  rw [hbc] at hrun
  unfold Oper.wp
  simp [execOp, ho, resolve, invoke, builtin, hd, hs, hrun, Result.andThen]
  have hO : Own (w.setRow g (cur.toList.take off ++ (BVs m ++ cur.toList.drop (off + m.length))).toArray) B (.slice (some ⟨g, 0, none⟩) (splice l off m).length cap) (splice l off m) := by
    refine ⟨by simp [length_BVs], .inr ⟨g, cap, _, rfl, hBg, setRow_heap w g cur _ 5 _ hg, by omega, hcm, ?_, ?_⟩⟩
    · simp [length_BVs]; omega
    · have ht' : cur.toList.take l.length = BVs l := by simpa using htake
      have hcl : cur.toList.length = cap := by simp [hcs']
      rw [hll]
      apply List.ext_getElem?
      intro j
      have hj : ∀ j, j < l.length → cur.toList[j]? = (BVs l)[j]? := by
        intro j hj
        rw [← ht', List.getElem?_take, if_pos hj]
      simp only [Nat.mul_one, List.getElem?_take]
      by_cases h1 : j < l.length
      · rw [if_pos h1]
        have e2 : BVs (splice l off m) = splice (BVs l) off (BVs m) := by simp [BVs, splice]
        rw [e2, splice, List.getElem?_append, List.getElem?_append, List.getElem?_append, List.getElem?_append]
        simp only [List.length_take, length_BVs, hcl, List.getElem?_take, List.getElem?_drop]
        have m1 : min off cap = off := by omega
        have m2 : min off l.length = off := by omega
        rw [m1, m2]
        by_cases h2 : j < off
        · simp only [if_pos h2]; exact hj j h1
        · simp only [if_neg h2]
          by_cases h3 : j - off < m.length
          · simp only [if_pos h3]
          · simp only [if_neg h3]
            exact hj _ (by omega)
      · rw [if_neg h1]
        rw [List.getElem?_eq_none]
        rw [length_BVs, hll]; omega
  rw [hll] at hO
  rw [hml] at hO
  exact h _ hO (below_setRow (Below.refl _ _) hBg _) ⟨rfl, rfl, rfl, by simp, fun k _ hk => setRow_other w g k _ (fun e => hk (by simp [e]))⟩
abbrev wp_copyStr {o : Oper} {a : Act} {w : World} {K : Act → World → Prop} {Q : Exit → Act → World → Prop} := @wp_copyStr_of Tryz.prog o a w K Q Tryz.underlying27 info5
end Go.Proofs.YtilgpaeeleknhaaGreatDoor
end

section
namespace Go.Proofs.YtilgpaeeleknhaaGreatDoor
open Go Go.RowKit
set_option linter.unusedSimpArgs false
set_option linter.unusedVariables false

theorem OwnF.rd {w : World} {B : Nat} {v : Value} {l : List UInt8} (h : OwnF w B v l) : Rd w w.heap.size v l := by
  obtain ⟨g, c, rfl, hb, hg⟩ := h.shape
  refine ⟨_, _, rfl, (by intro ad e; cases e; exact hg), fun j u hu => ⟨_, rfl, ?_⟩⟩
  rw [Addr.add_mid, Nat.zero_add]
  exact h.cells j u hu
theorem wp_copyRd {o : Oper} {a : Act} {w0 w wa : World} {K : Act → World → Prop} {Q : Exit → Act → World → Prop} (d s : Operand)
    (ho : o.op = .call { callee := .builtin .copy, args := #[d, s], argTypes := #[27, 27] })
    (B B' g off cap dl dc n q : Nat) (l m : List UInt8) (y : Value) (hd : a.eval d = .slice (some ⟨g, off, none⟩) dl dc) (hn : n = l.length) (hown : Own w B (.slice (some ⟨g, 0, none⟩) n cap) l) (hwa : Below w.heap.size w wa) (hb : Below B w0 w) (hB : B ≤ w0.heap.size) (hq : q = m.length) (hdl : q ≤ dl) (hfit : off + q ≤ n)
    (hs : a.eval s = y) (hrd : Rd wa B' y m)
    (h : ∀ w', Own w' B (.slice (some ⟨g, 0, none⟩) n cap) (splice l off m) → Below B w0 w' → n = (splice l off m).length → wa.grownBy w' (some g) → K (a.put o.dst (goInt q)) w') :
    Oper.wp Tryz.prog o a wa K Q := by
  subst hn; subst hq
  refine wp_copyB_of Tryz.underlying27 info5 d s ho B B' g off cap dl dc l m y hd (hown.later hwa) hdl hfit hs hrd ?_
  intro w' L hL h1 h2 hO hb1 hgr
  have e := hL.out
  subst e
  have hll : (splice l off m).length = l.length := length_splice l off m hfit
  rw [hll] at hO
  exact h w' hO (hb.trans ((hwa.mono (Nat.le_trans hB hb.size)).trans hb1)) hll.symm hgr
end Go.Proofs.YtilgpaeeleknhaaGreatDoor
end
