/-
  DERIVED. A part of the proof of laws.FnIsoPaths (for every input the law returns true and each argument reads as before; the listed variables read as listed when the call begins). It holds:
  · A directory's records as the reader meets them: plain.
  · A record's bytes, one by one: plain.
-/
import Derived.Test.YtilgpaeeleknhaaGreatDoorIq12
section
namespace Go.Proofs.YtilgpaeeleknhaaGreatDoor
open Go Go.RowKit
set_option linter.unusedSimpArgs false
set_option linter.unusedVariables false

/-- From place i on, b is read as these records: a zero byte leads to the next sector. -/
inductive RecsAt (b : List UInt8) : Nat → List (List UInt8) → Prop
  | done (i : Nat) : b.length ≤ i → RecsAt b i []
  | skip (i : Nat) (rs : List (List UInt8)) : i < b.length → b[i]? = some 0 → RecsAt b (i + (2048 - i % 2048)) rs → RecsAt b i rs
  | one (i : Nat) (r : List UInt8) (rs : List (List UInt8)) : Holds b i r → i + r.length ≤ b.length → RecsAt b (i + r.length) rs → RecsAt b i (r :: rs)
theorem addRec_pre (out r : List UInt8) : ∃ t, addRec out r = out ++ t := by
  unfold addRec; split
  · exact ⟨zeros (2048 - out.length % 2048) ++ r, by simp⟩
  · exact ⟨r, rfl⟩
theorem recs_pre (rs : List (List UInt8)) (out : List UInt8) : ∃ t, rs.foldl addRec out = out ++ t := by
  induction rs generalizing out with
  | nil => exact ⟨[], by simp⟩
  | cons r rs ih =>
    obtain ⟨t, ht⟩ := addRec_pre out r
    obtain ⟨u, hu⟩ := ih (addRec out r)
    exact ⟨t ++ u, by simp only [List.foldl_cons]; rw [hu, ht, List.append_assoc]⟩
theorem padSec_pre (out : List UInt8) : ∃ t, padSec out = out ++ t := by
  unfold padSec; split
  · exact ⟨_, rfl⟩
  · exact ⟨[], by simp⟩
theorem Holds.mid (a c t : List UInt8) : Holds (a ++ c ++ t) a.length c := by
  intro j hj
  rw [List.append_assoc, List.getElem?_append_right (by omega), List.getElem?_append_left (by omega)]
  congr 1; omega
theorem recsAt_of (rs : List (List UInt8)) (out : List UInt8) (hr : ∀ r ∈ rs, r.length ≤ 2048) : RecsAt (padSec (rs.foldl addRec out)) out.length rs := by
  induction rs generalizing out with
  | nil =>
    simp only [List.foldl_nil]
    by_cases h : 0 < out.length % 2048
    · have e : padSec out = out ++ zeros (2048 - out.length % 2048) := by unfold padSec; rw [if_pos h]
      have hl : (padSec out).length = out.length + (2048 - out.length % 2048) := by rw [e, List.length_append, zeros_length]
      refine .skip _ _ (by rw [hl]; omega) ?_ (.done _ (by rw [hl]; exact Nat.le_refl _))
      rw [e, List.getElem?_append_right (Nat.le_refl _), zeros, List.getElem?_replicate, if_pos (by omega)]
    · have e : padSec out = out := by unfold padSec; rw [if_neg h]
      rw [e]; exact .done _ (Nat.le_refl _)
  | cons r rs ih =>
    have IH := ih (addRec out r) (fun r hr' => hr r (by simp [hr']))
    have hrl := hr r (by simp)
    simp only [List.foldl_cons]
    obtain ⟨t, ht⟩ := recs_pre rs (addRec out r)
    obtain ⟨u, hu⟩ := padSec_pre (rs.foldl addRec (addRec out r))
    have hb : padSec (rs.foldl addRec (addRec out r)) = addRec out r ++ (t ++ u) := by rw [hu, ht, List.append_assoc]
    by_cases h : 2048 < out.length % 2048 + r.length
    · have e : addRec out r = out ++ zeros (2048 - out.length % 2048) ++ r := by unfold addRec; rw [if_pos h]
      have el : (out ++ zeros (2048 - out.length % 2048)).length = out.length + (2048 - out.length % 2048) := by rw [List.length_append, zeros_length]
      have e2 : (addRec out r).length = out.length + (2048 - out.length % 2048) + r.length := by rw [e, List.length_append, el]
      have hm : out.length % 2048 < 2048 := Nat.mod_lt _ (by decide)
      refine .skip _ _ ?_ ?_ (.one _ _ _ ?_ ?_ ?_)
      · rw [hb, List.length_append, e2]; omega
      · rw [hb, e, List.append_assoc, List.append_assoc, List.getElem?_append_right (Nat.le_refl _), Nat.sub_self, List.getElem?_append_left (by rw [zeros_length]; omega), zeros, List.getElem?_replicate, if_pos (by omega)]
      · rw [← el, hb, e]; exact Holds.mid _ _ _
      · rw [hb, List.length_append, e2]; omega
      · rw [← e2]; exact IH
    · have e : addRec out r = out ++ r := by unfold addRec; rw [if_neg h]
      have e2 : (addRec out r).length = out.length + r.length := by rw [e, List.length_append]
      refine .one _ _ _ ?_ ?_ ?_
      · rw [hb, e]; exact Holds.mid _ _ _
      · rw [hb, List.length_append, e2]; omega
      · rw [← e2]; exact IH
theorem dirBytes_recs (ns : List Node) (i : Nat) (h : ∀ r ∈ dirRecs ns i, r.length ≤ 2048) : RecsAt (dirBytes ns i) 0 (dirRecs ns i) := recsAt_of (dirRecs ns i) [] h

theorem padEven_get (l : List UInt8) (j : Nat) (h : j < l.length) : (padEven l)[j]? = l[j]? := by
  unfold padEven; split
  · exact List.getElem?_append_left h
  · rfl
theorem padEven_le (l : List UInt8) : l.length ≤ (padEven l).length := by
  rw [padEven_length]; unfold evn; split <;> omega
theorem isoRec_zero (id : List UInt8) (e s : Nat) (t : Int) (d : Bool) (su : List UInt8) : (isoRec id e s t d su)[0]? = some (u8 (recLen id.length su.length)) := by
  have hl := isoRec_length id e s t d su
  have : 33 ≤ recLen id.length su.length := by unfold recLen evn; split <;> split <;> omega
  unfold isoRec at hl ⊢
  simp only [List.length_set] at hl ⊢
  rw [List.getElem?_set, if_pos rfl, if_pos (by omega), hl]
theorem isoRec_get (id : List UInt8) (e s : Nat) (t : Int) (d : Bool) (su : List UInt8) (j : Nat) (h1 : 0 < j) (h2 : j < 33 + id.length) : (isoRec id e s t d su)[j]? = (recHead id.length e s t d ++ id)[j]? := by
  have hl : (recHead id.length e s t d ++ id).length = 33 + id.length := by rw [List.length_append, length_recHead]
  have hp := padEven_le (recHead id.length e s t d ++ id)
  unfold isoRec
  simp only
  rw [List.getElem?_set, if_neg (by omega), padEven_get _ _ (by rw [List.length_append]; omega), List.getElem?_append_left (by omega), padEven_get _ _ (by omega)]
theorem isoRec_head (id : List UInt8) (e s : Nat) (t : Int) (d : Bool) (su : List UInt8) (j : Nat) (h1 : 0 < j) (h2 : j < 33) : (isoRec id e s t d su)[j]? = (recHead id.length e s t d)[j]? := by
  rw [isoRec_get _ _ _ _ _ _ _ h1 (by omega), List.getElem?_append_left (by rw [length_recHead]; exact h2)]
theorem isoRec_id (id : List UInt8) (e s : Nat) (t : Int) (d : Bool) (su : List UInt8) (j : Nat) (h : j < id.length) : (isoRec id e s t d su)[33 + j]? = id[j]? := by
  rw [isoRec_get _ _ _ _ _ _ _ (by omega) (by omega), List.getElem?_append_right (by rw [length_recHead]; omega), length_recHead]
  congr 1; omega
theorem isoRec_su (id : List UInt8) (e s : Nat) (t : Int) (d : Bool) (su : List UInt8) (j : Nat) (h : j < su.length) : (isoRec id e s t d su)[evn (33 + id.length) + j]? = su[j]? := by
  have hl : (padEven (recHead id.length e s t d ++ id)).length = evn (33 + id.length) := by rw [padEven_length, List.length_append, length_recHead]
  have hp : 33 ≤ evn (33 + id.length) := by unfold evn; split <;> omega
  unfold isoRec
  simp only
  rw [List.getElem?_set, if_neg (by omega), padEven_get _ _ (by rw [List.length_append, hl]; omega), List.getElem?_append_right (by omega), hl]
  congr 1; omega
end Go.Proofs.YtilgpaeeleknhaaGreatDoor
end

section
namespace Go.Proofs.YtilgpaeeleknhaaGreatDoor
open Go Go.RowKit
set_option linter.unusedSimpArgs false
set_option linter.unusedVariables false

/-- The bytes that the reader takes out of a record. -/
structure RecHas (r id : List UInt8) (e s : Nat) (d : Bool) (su : List UInt8) : Prop where
  len : r.length = recLen id.length su.length
  b0 : r[0]? = some (u8 (recLen id.length su.length))
  b1 : r[1]? = some 0
  e0 : r[2]? = some (u8 e)
  e1 : r[3]? = some (u8 (e / 256))
  e2 : r[4]? = some (u8 (e / 65536))
  e3 : r[5]? = some (u8 (e / 16777216))
  s0 : r[10]? = some (u8 s)
  s1 : r[11]? = some (u8 (s / 256))
  s2 : r[12]? = some (u8 (s / 65536))
  s3 : r[13]? = some (u8 (s / 16777216))
  time : ∀ j, j < 7 → ∃ b, r[18 + j]? = some b
  flag : r[25]? = some (if d then 2 else 0)
  seq0 : r[28]? = some 1
  seq1 : r[29]? = some 0
  nlen : r[32]? = some (u8 id.length)
  name : ∀ j, j < id.length → r[33 + j]? = id[j]?
theorem isoRec_has (id : List UInt8) (e s : Nat) (t : Int) (d : Bool) (su : List UInt8) : RecHas (isoRec id e s t d su) id e s d su := by
  have h := fun j (h1 : 0 < j) (h2 : j < 33) => isoRec_head id e s t d su j h1 h2
  refine ⟨isoRec_length id e s t d su, isoRec_zero id e s t d su, ?_, ?_, ?_, ?_, ?_, ?_, ?_, ?_, ?_, ?_, ?_, ?_, ?_, ?_, fun j hj => isoRec_id id e s t d su j hj⟩
  · rw [h 1 (by decide) (by decide)]; rfl
  · rw [h 2 (by decide) (by decide)]; rfl
  · rw [h 3 (by decide) (by decide)]; rfl
  · rw [h 4 (by decide) (by decide)]; rfl
  · rw [h 5 (by decide) (by decide)]; rfl
  · rw [h 10 (by decide) (by decide)]; rfl
  · rw [h 11 (by decide) (by decide)]; rfl
  · rw [h 12 (by decide) (by decide)]; rfl
  · rw [h 13 (by decide) (by decide)]; rfl
  · intro j hj
    have hl := length_recHead id.length e s t d
    rw [h (18 + j) (by omega) (by omega)]
    exact ⟨_, List.getElem?_eq_getElem (by rw [hl]; omega)⟩
  · rw [h 25 (by decide) (by decide)]; rfl
  · rw [h 28 (by decide) (by decide)]; rfl
  · rw [h 29 (by decide) (by decide)]; rfl
  · rw [h 32 (by decide) (by decide)]; rfl
/-- Four bytes, the lowest first. -/
theorem le32_nat (e : Nat) (h : e < 4294967296) : (u8 e).toNat + 256 * ((u8 (e / 256)).toNat + 256 * ((u8 (e / 65536)).toNat + 256 * ((u8 (e / 16777216)).toNat + 256 * 0))) = e := by
  simp only [u8_toNat]; omega
end Go.Proofs.YtilgpaeeleknhaaGreatDoor
end
