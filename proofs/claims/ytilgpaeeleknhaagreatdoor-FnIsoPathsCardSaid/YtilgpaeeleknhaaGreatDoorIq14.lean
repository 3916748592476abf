/-
  DERIVED. A part of the proof of laws.FnIsoPaths (for every input the law returns true and each argument reads as before; the listed variables read as listed when the call begins). It holds:
  · The path table of a plain tree: plain.
-/
import Derived.Test.YtilgpaeeleknhaaGreatDoorIq13
import Derived.Test.YtilgpaeeleknhaaGreatDoorIq11
section
namespace Go.Proofs.YtilgpaeeleknhaaGreatDoor
open Go Go.RowKit
set_option linter.unusedSimpArgs false
set_option linter.unusedVariables false

theorem BQ.all {rock : Bool} {ns : List Node} {fs : List File} {out : List Nat} (hF : Fam rock ns fs) (hq : BQ ns out out.length 0) : ∀ n i, i < n → i < ns.length → dirOf ns i = true → i ∈ out := by
  have hl := hF.len
  intro n
  induction n with
  | zero => intro i hi; omega
  | succ n ih =>
    intro i hin hi hd
    by_cases h0 : i = 0
    · subst h0
      have := getD_mem hq.head.1
      rwa [hq.head.2] at this
    · obtain ⟨hp1, hp2, hp3, hp4⟩ := hF.par (i - 1) (by omega)
      rw [show i - 1 + 1 = i by omega] at hp1 hp2 hp3 hp4
      have hpo := ih (parOf ns i) (by omega) (by omega) hp2
      obtain ⟨t, ht, e⟩ := List.mem_iff_getElem.1 hpo
      have hk : i ∈ kidsOf ns (parOf ns i) := (hF.kids _ (by omega) i).2 ⟨by omega, hi, rfl⟩
      refine hq.done t i ht (.inl ⟨ht, ?_⟩) hd
      rw [List.getD_eq_getElem?_getD, List.getElem?_eq_getElem ht]
      show i ∈ kidsOf ns out[t]
      rw [e]; exact hk
/-- The directories in the order of the path table, and their numbers. -/
structure Numbered (ms : List Node) (ds : List Nat) : Prop where
  mem : ∀ i, i ∈ ds ↔ i < ms.length ∧ dirOf ms i = true
  nodup : ds.Nodup
  head : 0 < ds.length ∧ ds.getD 0 0 = 0
  num : ∀ k ∈ ds, (nodeAt ms k).number = ds.idxOf k + 1
theorem Numbered.one {ms : List Node} {ds : List Nat} (h : Numbered ms ds) (k : Nat) (hk : k ∈ ds) : (nodeAt ms k).number = 1 ↔ k = 0 := by
  rw [h.num k hk]
  have hh := h.head
  cases ds with
  | nil => simp at hh
  | cons a l =>
    have ha : a = 0 := by simpa using hh.2
    subst ha
    by_cases hk0 : k = 0
    · subst hk0; simp
    · rw [List.idxOf_cons]
      have : (0 == k) = false := by simpa using fun e : 0 = k => hk0 e.symm
      rw [this]
      simp [hk0]
theorem Numbered.like {ns ms : List Node} {ds : List Nat} (h : Numbered ns ds) (hl : Like ns ms) (hn : ∀ i, (nodeAt ms i).number = (nodeAt ns i).number) : Numbered ms ds := by
  refine ⟨fun i => ?_, h.nodup, h.head, fun k hk => ?_⟩
  · rw [hl.dir, hl.len]; exact h.mem i
  · rw [hn]; exact h.num k hk
def ptFind (ms : List Node) (ds : List Nat) (q : List UInt8) : Option Nat := ds.find? (fun i => decide ((nodeAt ms (parOf ms i)).number = 1 ∧ pathId ms i = q))
theorem pathId_nam {ms : List Node} {fs : List File} (hF : Fam false ms fs) (i : Nat) (hi : i < ms.length) (h0 : i ≠ 0) (hd : dirOf ms i = true) : pathId ms i = nam ms i := by
  have hl := hF.len
  have hid := id_plain hF (i - 1) (by omega)
  rw [show i - 1 + 1 = i by omega, if_pos hd, List.append_nil] at hid
  unfold pathId
  rw [if_neg h0]; exact hid
theorem ptFind_eq {ms : List Node} {fs : List File} {ds : List Nat} (hG : Good fs) (hF : Fam false ms fs) (hN : Numbered ms ds) (q : List UInt8) (hq : Plain q) : ptFind ms ds q = kidOf ms 0 q := by
  have hl := hF.len
  have hpar : ∀ i ∈ ds, parOf ms i ∈ ds := by
    intro i hi
    obtain ⟨h1, h2⟩ := (hN.mem i).1 hi
    by_cases h0 : i = 0
    · subst h0
      rw [hF.root.2]; exact hi
    · obtain ⟨hp1, hp2, _, _⟩ := hF.par (i - 1) (by omega)
      rw [show i - 1 + 1 = i by omega] at hp1 hp2
      exact (hN.mem _).2 ⟨by omega, hp2⟩
  have key : ∀ i ∈ ds, ((nodeAt ms (parOf ms i)).number = 1 ∧ pathId ms i = q) → i ∈ kidsOf ms 0 ∧ (nodeAt ms i).id.data.toList = q := by
    intro i hi ⟨h1, h2⟩
    have hp := (hN.one _ (hpar i hi)).1 h1
    obtain ⟨h3, h4⟩ := (hN.mem i).1 hi
    by_cases h0 : i = 0
    · subst h0
      exfalso
      rw [pathId, if_pos rfl] at h2
      exact hq.zero (by rw [← h2]; simp)
    · refine ⟨(hF.kids 0 (by omega) i).2 ⟨by omega, h3, hp⟩, ?_⟩
      rw [pathId, if_neg h0] at h2
      exact h2
  cases hk : kidOf ms 0 q with
  | none =>
    unfold ptFind
    rw [List.find?_eq_none]
    intro i hi h
    obtain ⟨h1, h2⟩ := key i hi (by simpa using h)
    unfold kidOf at hk
    rw [List.find?_eq_none] at hk
    exact hk i h1 (by simpa using h2)
  | some k =>
    have hkm := List.mem_of_find?_eq_some hk
    have hke := List.find?_some hk
    simp only [decide_eq_true_eq] at hke
    obtain ⟨h1, h2, h3, h4⟩ := kid_name hG hF 0 k q (by omega) hq.semi hkm hke
    obtain ⟨_, _, h5⟩ := (hF.kids 0 (by omega) k).1 hkm
    refine find_unique ((hN.mem k).2 ⟨h3, h1⟩) ?_ ?_
    · simp only [decide_eq_true_eq]
      refine ⟨(hN.one _ (hpar k ((hN.mem k).2 ⟨h3, h1⟩))).2 h5, ?_⟩
      rw [pathId, if_neg (by omega)]; exact hke
    · intro j hj hje
      obtain ⟨g1, g2⟩ := key j hj (by simpa using hje)
      obtain ⟨_, g3, g4, _⟩ := kid_name hG hF 0 j q (by omega) hq.semi g1 g2
      exact pts_inj hG hF j k g4 h3 (by rw [g3, h2])
/-- No two directories of one last name. -/
def ApartD (ms : List Node) : Prop := ∀ i j, i < ms.length → j < ms.length → 0 < i → 0 < j → dirOf ms i = true → dirOf ms j = true → nam ms i = nam ms j → i = j
theorem pathId_apart {ms : List Node} {fs : List File} {ds : List Nat} (hF : Fam false ms fs) (hN : Numbered ms ds) (hA : ApartD ms) (q : List UInt8) (hq : Plain q) (i j : Nat) (hi : i ∈ ds) (hj : j ∈ ds) (h1 : pathId ms i = q) (h2 : pathId ms j = q) : i = j := by
  obtain ⟨a1, a2⟩ := (hN.mem i).1 hi
  obtain ⟨b1, b2⟩ := (hN.mem j).1 hj
  have hz : ∀ k, pathId ms k = q → k ≠ 0 := by
    intro k hk e
    subst e
    rw [pathId, if_pos rfl] at hk
    exact hq.zero (by rw [← hk]; simp)
  have i0 := hz i h1
  have j0 := hz j h2
  rw [pathId_nam hF i a1 i0 a2] at h1
  rw [pathId_nam hF j b1 j0 b2] at h2
  exact hA i j a1 b1 (by omega) (by omega) a2 b2 (by rw [h1, h2])
end Go.Proofs.YtilgpaeeleknhaaGreatDoor
end
