/-
  DERIVED. A part of the proof of laws.FnIsoPaths (for every input the law returns true and each argument reads as before; the listed variables read as listed when the call begins). It holds:
  · Walks: a directory's record.
-/
import Derived.Test.YtilgpaeeleknhaaGreatDoorIq06
import Derived.Deep.RegionLaw
import Derived.Deep.RegionHeld3
import Derived.Deep.DeepCutAuto
section
namespace Go.Proofs.YtilgpaeeleknhaaGreatDoor
open Go Go.RowKit
set_option linter.unusedSimpArgs false
set_option linter.unusedVariables false

def setDir (d : Bool) (l : List UInt8) : List UInt8 := if d then l.set 25 2 else l
theorem head_eq (x z : Nat) (t : Int) (d : Bool) (k : Nat) {L1 L2 L3 L4 L5 L6 L7 : List UInt8} (h1 : Hid (L1 = List.replicate 33 0)) (h2 : Hid (L2 = splice L1 2 (both32 x))) (h3 : Hid (L3 = splice L2 10 (both32 z))) (h4 : Hid (L4 = splice L3 18 (isoTimeB t)))
    (h5 : Hid (L5 = setDir d L4)) (h6 : Hid (L6 = splice L5 28 (both16 1))) (h7 : Hid (L7 = L6.set 32 (u8 k))) : L7 = recHead k x z t d := by
  have h1 := h1.out; have h2 := h2.out; have h3 := h3.out; have h4 := h4.out; have h5 := h5.out; have h6 := h6.out; have h7 := h7.out
  subst h1; subst h2; subst h3; subst h4; subst h5; subst h6; subst h7
  cases d <;> rfl

theorem padEven_yes {L : List UInt8} (h : ((L.length : Int) % 2 == 1) = true) : padEven L = L ++ [0] := by
  have h := eq_of_beq h
  unfold padEven; rw [if_pos (by omega)]
theorem padEven_no {L : List UInt8} (h : ((L.length : Int) % 2 == 1) = false) : padEven L = L := by
  have h := ne_of_beq_false h
  unfold padEven; rw [if_neg (by omega)]

theorem Own.setN {w : World} {B g cap : Nat} {l : List UInt8} (h : Own w B (.slice (some ⟨g, 0, none⟩) l.length cap) l) (j k : Nat) : Own (w.setCell ⟨g, j, none⟩ (.int .u8 ((k : Int) % 256))) B (.slice (some ⟨g, 0, none⟩) l.length cap) (l.set j (u8 k)) := by
  have := h.set j (u8 k)
  rw [BV_u8, List.length_set] at this
  exact this

set_option maxRecDepth 100000 in
set_option maxHeartbeats 8000000 in
theorem isoRecord_any (nm : ByteArray) (x z : Nat) (t : Int) (d : Bool) (sv : Value) (su : List UInt8) (w : World) (hid : nm.size ≤ 1000) (hx : x < 4294967296) (hz : z < 4294967296) (h0 : -9223372036854775808 ≤ t) (h1 : t ≤ 9223372036854775807)
    (hsu : su.length ≤ 1000) (hrd : Rd w w.heap.size sv su) :
    Calls Tryz.prog 56 #[.string nm, .int .u32 x, .int .u32 z, .int .i64 t, .bool d, sv] w fun o w' => (∃ v, o = .returned v ∧ Own w' w.heap.size v (isoRec nm.data.toList x z t d su)) ∧ Below w.heap.size w w' := by
  have HR := Lib.hid hrd
  obtain ⟨A, c, rfl, hA, hc⟩ := hrd
  clear hA hc
  go_enter Tryz.func56, Tryz.ntmps56
  go_wp2_with (at_make; go_must (refine asList rfl fun K hK => ?_); go_must (refine wp_makeB _ _ rfl w.heap.size _ _ _ _ 33 (33 + nm.size + (33 + nm.size) % 2 + su.length) rfl rfl (by rfl) (by simp) (by omega) (by omega) (by simp) ?_); go_must (intro w1 L1 hL1 hl1 hl1' ho1 hb1 hs1); go_must (refine hK _ _ ?_); go_must (clear hK K))
  go_region_held3 (fun _ => True) (trivial) (first
    | (go_at_call 58; go_must (refine (both32_any x _ hx).mono ?_); go_must (rintro e w' ⟨rfl, rfl⟩))
    | (refine asStep rfl ?_; refine wp_copyNew (w0 := w) (.tmp 28) (.tmp 30) rfl w.heap.size w.heap.size 2 _ _ _ _ L1 (both32 x) rfl ho1 (by simp [length_both32]) (by rw [length_both32]; omega) (by omega) rfl (by simp [length_both32]) hb1 hb1.size ?_; intro w2 L2 hL2 hl2 hl2' ho2 hb2))
  go_wp2_with fail
  go_region_held3 (fun _ => True) (trivial) (first
    | (go_at_call 58; go_must (refine (both32_any z _ hz).mono ?_); go_must (rintro e w' ⟨rfl, rfl⟩))
    | (refine asStep rfl ?_; refine wp_copyNew (w0 := w) (.tmp 33) (.tmp 35) rfl w.heap.size w.heap.size 10 _ _ _ _ L2 (both32 z) rfl ho2 (by simp [length_both32]) (by rw [length_both32]; omega) rfl rfl (by simp [length_both32]) hb2 hb2.size ?_; intro w3 L3 hL3 hl3 hl3' ho3 hb3))
  go_wp2_with fail
  go_region_held3 (fun _ => True) (trivial) (first
    | (go_at_call 74; go_must (refine (isoTime_any t _ h0 h1).mono ?_); go_must (rintro e w' ⟨rfl, rfl⟩))
    | (refine asStep rfl ?_; refine wp_copyNew (w0 := w) (.tmp 38) (.tmp 40) rfl w.heap.size w.heap.size 18 _ _ _ _ L3 (isoTimeB t) rfl ho3 (by simp [length_isoTimeB]) (by rw [length_isoTimeB]; omega) rfl rfl (by simp [length_isoTimeB]) hb3 hb3.size ?_; intro w4 L4 hL4 hl4 hl4' ho4 hb4))
  have hc25 := ho4.cell 25 (by omega)
  have hf25 := ho4.unfrozen 25
  have ho5 := ho4.set 25 2
  have hb5 := hb4.setCell (p := ⟨w.heap.size, 25, none⟩) (Nat.le_refl _) (BV 2)
  obtain ⟨w5, hw5⟩ : ∃ w5, w5 = if d then w4.setCell ⟨w.heap.size, 25, none⟩ (BV 2) else w4 := ⟨_, rfl⟩
  obtain ⟨L5, hL5⟩ : ∃ L5, L5 = setDir d L4 := ⟨_, rfl⟩
  have ho5' : Own w5 w.heap.size (.slice (some ⟨w.heap.size, 0, none⟩) L5.length (33 + nm.size + (33 + nm.size) % 2 + su.length)) L5 := by
    cases d <;> simp only [setDir, if_true, if_false, Bool.false_eq_true, ↓reduceIte] at hw5 hL5 <;> subst hw5 <;> subst hL5 <;> assumption
  have hb5' : Below w.heap.size w w5 := by
    cases d <;> simp only [if_true, if_false, Bool.false_eq_true, ↓reduceIte] at hw5 <;> subst hw5 <;> assumption
  have hl5 : L5.length ≤ 33 ∧ 33 ≤ L5.length := by
    cases d <;> simp only [setDir, if_true, if_false, Bool.false_eq_true, ↓reduceIte] at hL5 <;> subst hL5 <;> (try rw [List.length_set]) <;> omega
  have HL5 := Lib.hid hL5
  have HC := Lib.hid hc25
  clear hL5 hc25 ho5 hb5
  have hb16 : ∀ w : World, Calls Tryz.prog 59 #[.int .u16 1] w fun e w' => e = .returned (.slice (some ⟨w.heap.size, 0, none⟩) 4 4) ∧ w' = w.alloc (.cells (BVs (both16 1)).toArray 5) := fun w => both16_any 1 w (by omega)
  have HB := Lib.hid hb16
  clear hb16
  obtain ⟨l5a, l5b⟩ := hl5
  cases d
  case' false =>
    have ew : w5 = w4 := by simpa using hw5
    clear hw5
    subst ew
    go_wp2_with fail
  case' true =>
    have hc25 := HC.out
    have ew : w4.setCell ⟨w.heap.size, 25, none⟩ (.int .u8 2) = w5 := by simpa [BV] using hw5.symm
    clear hw5
    go_wp2_with fail
    clear ew hc25 hf25
  all_goals
    clear HC
    go_region_held3 (fun _ => True) (trivial) (first
      | (go_at_call 59; go_must (refine (HB.out _).mono ?_); go_must (rintro e w' ⟨rfl, rfl⟩))
      | (refine asStep rfl ?_; refine wp_copyNew (w0 := w) (.tmp 46) (.tmp 47) rfl w.heap.size w.heap.size 28 _ _ _ _ L5 (both16 1) rfl ho5' (by simp [length_both16]) (by rw [length_both16]; omega) rfl rfl (by simp [length_both16]) hb5' hb5'.size ?_; intro w6 L6 hL6 hl6 hl6' ho6 hb6))
    have hc32 := ho6.cell 32 (by omega)
    have hf32 := ho6.unfrozen 32
    have ho7 := ho6.set 32 (u8 nm.size)
    have hb7 := hb6.setCell (p := ⟨w.heap.size, 32, none⟩) (Nat.le_refl _) (BV (u8 nm.size))
    obtain ⟨w7, hw7⟩ : ∃ w7, w7 = w6.setCell ⟨w.heap.size, 32, none⟩ (BV (u8 nm.size)) := ⟨_, rfl⟩
    obtain ⟨L7, hL7⟩ : ∃ L7, L7 = L6.set 32 (u8 nm.size) := ⟨_, rfl⟩
    rw [← hw7, ← hL7] at ho7
    rw [← hw7] at hb7
    have hl7 : L7.length ≤ 33 := by rw [hL7, List.length_set]; omega
    have hl7' : 33 ≤ L7.length := by rw [hL7, List.length_set]; omega
    have HL7 := Lib.hid hL7
    clear hL7
    rw [BV_u8] at hw7
    have ew7 := hw7.symm
    clear hw7
    have e33 : L7.length = 33 := by omega
    rw [e33] at ho7
    clear e33
    go_wp2_with (first
      | (at_builtin; refine asList rfl fun K hK => ?_; refine go_appS (w0 := w) (.tmp 54) (.tmp 55) rfl w.heap.size _ L7 nm rfl ho7 rfl (by omega) hb7 (Nat.le_refl _) ?_; intro A8 c8 w8 L8 hL8 hl8 hl8' ho8 hb8 hg8; refine hK _ _ ?_; clear hK K hg8)
      | (at_builtin; refine asList rfl fun K hK => ?_; refine go_appOne (w0 := w) (.tmp 61) (.tmp 62) rfl w.heap.size _ _ _ L8 0 rfl ho8 rfl rfl (by rfl) (by omega) hb8 (Nat.le_refl _) ?_; intro A9 c9 w9 L9 hL9 hl9 hl9' ho9 hb9; refine hK _ _ ?_; clear hK K)
      | (at_builtin; refine asList rfl fun K hK => ?_; refine go_appB (w0 := w) (.tmp 64) (.tmp 65) rfl w.heap.size _ _ _ L9 su rfl ho9 rfl (HR.out.keep hb9 (Nat.le_refl _)) (by omega) hb9 (Nat.le_refl _) ?_; intro Aa ca wa La hLa hla hla' hoa hba hga; clear hga; obtain ⟨ga, rfl⟩ := hoa.addr (by omega); have hc0 := hoa.cell 0 (by omega); have hf0 := hoa.unfrozen 0; refine hK _ _ ?_; clear hK K)
      | (at_builtin; refine asList rfl fun K hK => ?_; refine go_appB (w0 := w) (.tmp 64) (.tmp 65) rfl w.heap.size _ _ _ L8 su rfl ho8 rfl (HR.out.keep hb8 (Nat.le_refl _)) (by omega) hb8 (Nat.le_refl _) ?_; intro Aa ca wa La hLa hla hla' hoa hba hga; clear hga; obtain ⟨ga, rfl⟩ := hoa.addr (by omega); have hc0 := hoa.cell 0 (by omega); have hf0 := hoa.unfrozen 0; refine hK _ _ ?_; clear hK K)
      | (at_builtin; refine asList rfl fun K hK => ?_; refine go_appOne (w0 := w) (.tmp 71) (.tmp 72) rfl w.heap.size _ _ _ La 0 rfl hoa rfl rfl (by rfl) (by omega) hba (Nat.le_refl _) ?_; intro Ab cb wb Lb hLb hlb hlb' hob hbb; clear hc0 hf0; obtain ⟨gb, rfl⟩ := hob.addr (by omega); have hc0 := hob.cell 0 (by omega); have hf0 := hob.unfrozen 0; refine hK _ _ ?_; clear hK K))
    all_goals go_ret
    all_goals refine ⟨⟨_, rfl, ?_⟩, ?_⟩
    all_goals first
      | exact hbb.setCell (p := ⟨gb, 0, none⟩) hob.base.1 _
      | exact hba.setCell (p := ⟨ga, 0, none⟩) hoa.base.1 _
      | skip
    all_goals
      have e7 := head_eq x z t _ nm.size hL1 hL2 hL3 hL4 HL5 hL6 HL7
      have e8 := hL8.out
      have ea := hLa.out
      have en : nm.data.toList.length = nm.size := by rw [Array.length_toList]; rfl
      unfold isoRec
      rw [en, ← e7, ← e8]
    all_goals first
      | (rw [padEven_yes ‹((L8.length : Int) % 2 == 1) = true›, ← hL9.out, ← ea, padEven_yes ‹((La.length : Int) % 2 == 1) = true›, ← hLb.out]; exact hob.setN 0 _)
      | (rw [padEven_yes ‹((L8.length : Int) % 2 == 1) = true›, ← hL9.out, ← ea, padEven_no ‹((La.length : Int) % 2 == 1) = false›]; exact hoa.setN 0 _)
      | (rw [padEven_no ‹((L8.length : Int) % 2 == 1) = false›, ← ea, padEven_yes ‹((La.length : Int) % 2 == 1) = true›, ← hLb.out]; exact hob.setN 0 _)
      | (rw [padEven_no ‹((L8.length : Int) % 2 == 1) = false›, ← ea, padEven_no ‹((La.length : Int) % 2 == 1) = false›]; exact hoa.setN 0 _)

end Go.Proofs.YtilgpaeeleknhaaGreatDoor
end
