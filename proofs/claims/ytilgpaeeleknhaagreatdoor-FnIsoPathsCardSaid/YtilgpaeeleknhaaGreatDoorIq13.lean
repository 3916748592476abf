/-
  DERIVED. A part of the proof of laws.FnIsoPaths (for every input the law returns true and each argument reads as before; the listed variables read as listed when the call begins). It holds:
  · What the nodes made of files are: plain.
  · A tree of plain names: where its directories are found. Plain.
-/
import Derived.Test.YtilgpaeeleknhaaGreatDoorIq12
import Derived.Test.YtilgpaeeleknhaaGreatDoorIq05
section
namespace Go.Proofs.YtilgpaeeleknhaaGreatDoor
open Go Go.RowKit
set_option linter.unusedSimpArgs false
set_option linter.unusedVariables false

abbrev File.p (f : File) : List UInt8 := f.path.data.toList
theorem placeOf_spec (d : List UInt8) (l : List File) (h : placeOf d l < l.length) : (l[placeOf d l]).dir = true ∧ (l[placeOf d l]).p = d := by
  induction l with
  | nil => simp at h
  | cons f l ih =>
    by_cases hf : (f.dir && f.path.data.toList = d) = true
    · have e : placeOf d (f :: l) = 0 := by rw [placeOf, if_pos hf]
      simp only [e, List.getElem_cons_zero]
      simpa using hf
    · have e : placeOf d (f :: l) = placeOf d l + 1 := by rw [placeOf, if_neg hf]
      simp only [e, List.getElem_cons_succ]
      exact ih (by rw [e] at h; simpa using h)
theorem placeOf_lt (d : List UInt8) (l : List File) (f : File) (hf : f ∈ l) (h1 : f.dir = true) (h2 : f.p = d) : placeOf d l < l.length := by
  induction l with
  | nil => cases hf
  | cons g l ih =>
    by_cases hg : (g.dir && g.path.data.toList = d) = true
    · rw [placeOf, if_pos hg]; simp
    · rw [placeOf, if_neg hg]
      rcases List.mem_cons.1 hf with rfl | hf
      · exact absurd (by simpa using ⟨h1, h2⟩) hg
      · have := ih hf; simp; exact this
/-- What the nodes are that were made of these files. -/
structure Fam (rock : Bool) (ns : List Node) (fs : List File) : Prop where
  len : ns.length = fs.length + 1
  root : (nodeAt ns 0).f = rootFile ∧ parOf ns 0 = 0
  file : ∀ k, k < fs.length → fs[k]? = some (nodeAt ns (k + 1)).f
  id : ∀ k, k < fs.length → (nodeAt ns (k + 1)).id = ofL (idOf rock (k + 1) (cutLast (nodeAt ns (k + 1)).f.p).2 (nodeAt ns (k + 1)).f.dir)
  par : ∀ k, k < fs.length → parOf ns (k + 1) < k + 1 ∧ dirOf ns (parOf ns (k + 1)) = true ∧ (nodeAt ns (parOf ns (k + 1))).f.p = (cutLast (nodeAt ns (k + 1)).f.p).1 ∧ (cutLast (nodeAt ns (k + 1)).f.p).2 ≠ []
  kids : ∀ i, i < ns.length → ∀ k, k ∈ kidsOf ns i ↔ 0 < k ∧ k < ns.length ∧ parOf ns k = i
  su : ∀ i, (nodeAt ns i).su = [] ∧ (nodeAt ns i).more = []
theorem Fam.start (rock : Bool) : Fam rock [rootNode] [] := by
  refine ⟨rfl, ⟨rfl, rfl⟩, ?_, ?_, ?_, ?_, ?_⟩
  · intro k hk; cases hk
  · intro k hk; cases hk
  · intro k hk; cases hk
  · intro i hi k
    have : i = 0 := by simpa using hi
    subst this
    simp only [kidsOf, rootNode, List.getD_cons_zero, List.not_mem_nil, false_iff, List.length_singleton]
    omega
  · intro i
    cases i with
    | zero => exact ⟨rfl, rfl⟩
    | succ i => simp [nodeAt, rootNode]
theorem Fam.step {rock : Bool} {ns ms : List Node} {fs : List File} {f : File} (h : Fam rock ns fs) (hs : stepFile rock ns f = some ms) : Fam rock ms (fs ++ [f]) := by
  unfold stepFile at hs
  simp only at hs
  split at hs
  case isFalse => cases hs
  case isTrue hp =>
    split at hs
    · cases hs
    · next hne =>
      cases hs
      have hsp := placeOf_spec (cutLast f.path.data.toList).1 (ns.map (·.f)) (by simpa using hp)
      simp only [List.getElem_map] at hsp
      generalize placeOf (cutLast f.path.data.toList).1 (ns.map (·.f)) = p at hp hsp ⊢
      have hpe : ns.getD p rootNode = ns[p] := by simp [List.getD_eq_getElem?_getD, List.getElem?_eq_getElem hp]
      have hat := step_at hp { ns[p] with kids := ns[p].kids ++ [ns.length] } (newNode f (idOf rock ns.length (cutLast f.path.data.toList).2 f.dir) p (ns[p].level + 1))
      generalize hms : (ns.set p { ns[p] with kids := ns[p].kids ++ [ns.length] } ++ [newNode f (idOf rock ns.length (cutLast f.path.data.toList).2 f.dir) p (ns[p].level + 1)]) = ms at hat ⊢
      have hlen : ms.length = ns.length + 1 := by rw [← hms]; simp
      have hold : ∀ i, i ≠ ns.length → (nodeAt ms i).f = (nodeAt ns i).f ∧ (nodeAt ms i).id = (nodeAt ns i).id ∧ parOf ms i = parOf ns i ∧ dirOf ms i = dirOf ns i ∧ (nodeAt ms i).su = (nodeAt ns i).su ∧ (nodeAt ms i).more = (nodeAt ns i).more := by
        intro i hi
        simp only [nodeAt, parOf, dirOf, hat i, if_neg hi]
        split
        · next e => subst e; rw [hpe]; exact ⟨rfl, rfl, rfl, rfl, rfl, rfl⟩
        · exact ⟨rfl, rfl, rfl, rfl, rfl, rfl⟩
      have hnew : nodeAt ms ns.length = newNode f (idOf rock ns.length (cutLast f.path.data.toList).2 f.dir) p (ns[p].level + 1) := by simp only [nodeAt, hat, if_pos]
      have hnl := h.len
      refine ⟨by rw [hlen, hnl]; simp, ?_, ?_, ?_, ?_, ?_, ?_⟩
      · have h0 := hold 0 (by omega)
        rw [h0.1, h0.2.2.1]; exact h.root
      · intro k hk
        rw [List.length_append, List.length_singleton] at hk
        by_cases hk' : k < fs.length
        · rw [(hold (k + 1) (by omega)).1, List.getElem?_append_left hk']; exact h.file k hk'
        · have : k = fs.length := by omega
          subst this
          rw [← hnl, hnew]
          simp [newNode]
      · intro k hk
        rw [List.length_append, List.length_singleton] at hk
        by_cases hk' : k < fs.length
        · obtain ⟨h1, h2, _⟩ := hold (k + 1) (by omega)
          rw [h1, h2]; exact h.id k hk'
        · have : k = fs.length := by omega
          subst this
          rw [← hnl, hnew]; rfl
      · intro k hk
        rw [List.length_append, List.length_singleton] at hk
        by_cases hk' : k < fs.length
        · obtain ⟨h1, h2, h3, _⟩ := hold (k + 1) (by omega)
          have hh := h.par k hk'
          obtain ⟨g1, g2, g3, g4, _⟩ := hold (parOf ns (k + 1)) (by omega)
          rw [h1, h3, g4, g1]; exact hh
        · have : k = fs.length := by omega
          subst this
          have e3 : parOf ms (fs.length + 1) = p := by
            rw [← hnl]; show (nodeAt ms ns.length).parent = p; rw [hnew]; rfl
          obtain ⟨g1, g2, g3, g4, _⟩ := hold p (by omega)
          rw [e3, g4, g1, ← hnl, hnew]
          refine ⟨by omega, ?_, ?_, hne⟩
          · unfold dirOf; rw [hpe]; exact hsp.1
          · show (ns.getD p rootNode).f.p = _; rw [hpe]; exact hsp.2
      · intro i hi k
        rw [hlen] at hi
        have hk0 : kidsOf ms i = if i = ns.length then [] else if i = p then kidsOf ns p ++ [ns.length] else kidsOf ns i := by
          unfold kidsOf
          rw [hat]
          split
          · rfl
          · split
            · rw [hpe]
            · rfl
        have hpk : parOf ms k = if k = ns.length then p else parOf ns k := by
          by_cases hk : k = ns.length
          · subst hk
            rw [if_pos rfl]; show (nodeAt ms ns.length).parent = p; rw [hnew]; rfl
          · rw [if_neg hk]; exact (hold k hk).2.2.1
        rw [hk0, hpk, hlen]
        split
        · next hin =>
          subst hin
          simp only [List.not_mem_nil, false_iff]
          rintro ⟨h1, h2, h3⟩
          split at h3
          · omega
          · have : k - 1 < fs.length := by omega
            have hh := (h.par (k - 1) this).1
            have e : k - 1 + 1 = k := by omega
            rw [e] at hh; omega
        · next hin =>
          split
          · next hip =>
            subst hip
            rw [List.mem_append, List.mem_singleton, h.kids i (by omega)]
            constructor
            · rintro (⟨h1, h2, h3⟩ | rfl)
              · exact ⟨h1, by omega, by rw [if_neg (by omega)]; exact h3⟩
              · exact ⟨by omega, by omega, if_pos rfl⟩
            · rintro ⟨h1, h2, h3⟩
              by_cases hk : k = ns.length
              · exact .inr hk
              · rw [if_neg hk] at h3; exact .inl ⟨h1, by omega, h3⟩
          · next hip =>
            rw [h.kids i (by omega)]
            constructor
            · rintro ⟨h1, h2, h3⟩
              exact ⟨h1, by omega, by rw [if_neg (by omega)]; exact h3⟩
            · rintro ⟨h1, h2, h3⟩
              by_cases hk : k = ns.length
              · rw [if_pos hk] at h3; exact absurd h3.symm hip
              · rw [if_neg hk] at h3; exact ⟨h1, by omega, h3⟩
      · intro i
        by_cases hi : i = ns.length
        · subst hi; rw [hnew]; exact ⟨rfl, rfl⟩
        · obtain ⟨_, _, _, _, h5, h6⟩ := hold i hi
          rw [h5, h6]; exact h.su i
theorem addFiles_fam {rock : Bool} {l : List File} {ns ms : List Node} {fs : List File} (h : addFiles rock ns l = some ms) (hs : Fam rock ns fs) : Fam rock ms (fs ++ l) := by
  induction l generalizing ns fs with
  | nil => cases h; simpa using hs
  | cons f l ih =>
    simp only [addFiles] at h
    cases hf : stepFile rock ns f with
    | none => rw [hf] at h; cases h
    | some ms' =>
      rw [hf] at h
      have := ih h (hs.step hf)
      rwa [List.append_assoc] at this
/-- Each file's directory stands ahead of it. -/
def Ahead (fs : List File) : Prop := ∀ k (h : k < fs.length), (cutLast fs[k].p).2 ≠ [] ∧ ((cutLast fs[k].p).1 = [] ∨ ∃ j, ∃ hj : j < k, (fs[j]'(by omega)).dir = true ∧ (fs[j]'(by omega)).p = (cutLast fs[k].p).1)
theorem addFiles_made {rock : Bool} {fs : List File} (h : Ahead fs) : ∃ ns, addFiles rock [rootNode] fs = some ns := by
  suffices ∀ k, k ≤ fs.length → ∃ ns, addFiles rock [rootNode] (fs.take k) = some ns by
    have := this fs.length (Nat.le_refl _)
    rwa [List.take_length] at this
  intro k
  induction k with
  | zero => intro _; exact ⟨[rootNode], by simp [addFiles]⟩
  | succ k ih =>
    intro hk
    obtain ⟨ns, hns⟩ := ih (by omega)
    rw [addFiles_take rock fs k hk, hns]
    have hF := addFiles_fam hns (Fam.start rock)
    rw [List.nil_append] at hF
    obtain ⟨h1, h2⟩ := h k hk
    have hlt : placeOf (cutLast fs[k].p).1 (ns.map (·.f)) < (ns.map (·.f)).length := by
      have hnl := hF.len
      rw [List.length_take] at hnl
      rcases h2 with h2 | ⟨j, hj, h3, h4⟩
      · refine placeOf_lt _ _ rootFile ?_ rfl (by rw [h2]; rfl)
        have := hF.root.1
        rw [← this]
        have h0 : 0 < ns.length := by omega
        rw [nodeAt, List.getD_eq_getElem?_getD, List.getElem?_eq_getElem h0]
        exact List.mem_map.2 ⟨ns[0], List.getElem_mem h0, rfl⟩
      · refine placeOf_lt _ _ (fs[j]'(by omega)) ?_ h3 h4
        have hf := hF.file j (by rw [List.length_take]; omega)
        rw [List.getElem?_take, if_pos hj, List.getElem?_eq_getElem (by omega)] at hf
        have hj1 : j + 1 < ns.length := by omega
        rw [Option.some.inj hf, nodeAt, List.getD_eq_getElem?_getD, List.getElem?_eq_getElem hj1]
        exact List.mem_map.2 ⟨ns[j + 1], List.getElem_mem hj1, rfl⟩
    rw [List.length_map] at hlt
    have hst : ∃ ns', stepFile rock ns fs[k] = some ns' := by
      unfold stepFile
      simp only
      rw [dif_pos hlt, if_neg h1]
      exact ⟨_, rfl⟩
    simpa using hst
end Go.Proofs.YtilgpaeeleknhaaGreatDoor
end

section
namespace Go.Proofs.YtilgpaeeleknhaaGreatDoor
open Go Go.RowKit
set_option linter.unusedSimpArgs false
set_option linter.unusedVariables false

structure Plain (s : List UInt8) : Prop where
  good : GoodPart s
  semi : (59 : UInt8) ∉ s
  back : (92 : UInt8) ∉ s
  zero : (0 : UInt8) ∉ s
  head : s.head? ≠ some 46
  last : s.getLast? ≠ some 46
  len : s.length ≤ 12
  asc : ∀ b ∈ s, 2 ≤ b.toNat ∧ b.toNat < 128
structure Good (fs : List File) : Prop where
  count : fs.length ≤ 40
  parts : ∀ f ∈ fs, ∀ s ∈ Lib.Pa.els f.p, Plain s
  ahead : Ahead fs
  apart : ∀ i j (hi : i < fs.length) (hj : j < fs.length), fs[i].p = fs[j].p → i = j
theorem Like.fam {rock : Bool} {ns ms : List Node} {fs : List File} (h : Like ns ms) (hm : ∀ i, (nodeAt ms i).more = (nodeAt ns i).more) (hF : Fam rock ns fs) : Fam rock ms fs := by
  have hl := h.len
  refine ⟨by rw [hl]; exact hF.len, ?_, ?_, ?_, ?_, ?_, ?_⟩
  · rw [h.f, h.par]; exact hF.root
  · intro k hk; rw [h.f]; exact hF.file k hk
  · intro k hk; rw [h.f, h.id]; exact hF.id k hk
  · intro k hk; rw [h.f, h.par, h.dir, h.f]; exact hF.par k hk
  · intro i hi k; rw [h.kids, h.par, hl]; exact hF.kids i (by omega) k
  · intro i; rw [h.su, hm]; exact hF.su i
theorem Shuf.fam {rock : Bool} {ns ms : List Node} {fs : List File} (h : Shuf ns ms) (hF : Fam rock ns fs) : Fam rock ms fs := by
  have hl := h.1
  have hat : ∀ i, (nodeAt ms i).f = (nodeAt ns i).f ∧ (nodeAt ms i).id = (nodeAt ns i).id ∧ parOf ms i = parOf ns i ∧ dirOf ms i = dirOf ns i ∧ (kidsOf ms i).Perm (kidsOf ns i) ∧ (nodeAt ms i).su = (nodeAt ns i).su ∧ (nodeAt ms i).more = (nodeAt ns i).more := by
    intro i
    by_cases hi : i < ns.length
    · obtain ⟨l, hp, e⟩ := h.at i hi
      simp only [nodeAt, parOf, dirOf, kidsOf, e]
      exact ⟨by trivial, by trivial, by trivial, by trivial, hp, by trivial, by trivial⟩
    · have e1 : ns.getD i rootNode = rootNode := by simp [List.getD_eq_getElem?_getD, List.getElem?_eq_none (Nat.le_of_not_lt hi)]
      have e2 : ms.getD i rootNode = rootNode := by simp [List.getD_eq_getElem?_getD, List.getElem?_eq_none (show ms.length ≤ i by omega)]
      simp only [nodeAt, parOf, dirOf, kidsOf, e1, e2]
      exact ⟨by trivial, by trivial, by trivial, by trivial, List.Perm.refl _, by trivial, by trivial⟩
  refine ⟨by rw [← hl]; exact hF.len, ?_, ?_, ?_, ?_, ?_, ?_⟩
  · rw [(hat 0).1, (hat 0).2.2.1]; exact hF.root
  · intro k hk; rw [(hat _).1]; exact hF.file k hk
  · intro k hk; rw [(hat _).1, (hat _).2.1]; exact hF.id k hk
  · intro k hk; rw [(hat (k + 1)).1, (hat (k + 1)).2.2.1, (hat _).2.2.2.1, (hat _).1]; exact hF.par k hk
  · intro i hi k; rw [(hat i).2.2.2.2.1.mem_iff, (hat k).2.2.1, ← hl]; exact hF.kids i (by omega) k
  · intro i; rw [(hat i).2.2.2.2.2.1, (hat i).2.2.2.2.2.2]; exact hF.su i

theorem els_cut (l : List UInt8) : ∃ qs s, Lib.Pa.els l = qs ++ [s] ∧ cutLast l = (joinP qs, s) := by
  have hne := els_ne l
  refine ⟨(Lib.Pa.els l).dropLast, (Lib.Pa.els l).getLast hne, (List.dropLast_concat_getLast hne).symm, ?_⟩
  have h1 := joinP_els l
  rw [← List.dropLast_concat_getLast hne] at h1
  have h2 := cutLast_join (Lib.Pa.els l).dropLast ((Lib.Pa.els l).getLast hne) (els_no l _ (List.getLast_mem hne))
  rw [h1] at h2
  exact h2
/-- The parts of a node's path. -/
def pts (ms : List Node) (i : Nat) : List (List UInt8) := if i = 0 then [] else Lib.Pa.els (nodeAt ms i).f.p
/-- A node's last name. -/
def nam (ms : List Node) (i : Nat) : List UInt8 := (cutLast (nodeAt ms i).f.p).2
theorem Fam.mem {rock : Bool} {ms : List Node} {fs : List File} (hF : Fam rock ms fs) (k : Nat) (hk : k < fs.length) : (nodeAt ms (k + 1)).f ∈ fs := List.mem_of_getElem? (hF.file k hk)
theorem Good.plain {rock : Bool} {ms : List Node} {fs : List File} (hG : Good fs) (hF : Fam rock ms fs) (i : Nat) (hi : i < ms.length) : ∀ s ∈ pts ms i, Plain s := by
  intro s hs
  unfold pts at hs
  split at hs
  · cases hs
  · have hl := hF.len
    have hm := hF.mem (i - 1) (by omega)
    rw [show i - 1 + 1 = i by omega] at hm
    exact hG.parts _ hm s hs
theorem pts_step {rock : Bool} {ms : List Node} {fs : List File} (hG : Good fs) (hF : Fam rock ms fs) (k : Nat) (hk : k < fs.length) : pts ms (k + 1) = pts ms (parOf ms (k + 1)) ++ [nam ms (k + 1)] := by
  have hl := hF.len
  obtain ⟨qs, s, h1, h2⟩ := els_cut (nodeAt ms (k + 1)).f.p
  obtain ⟨hp1, hp2, hp3, hp4⟩ := hF.par k hk
  have hpl : ∀ t ∈ qs ++ [s], Plain t := by
    intro t ht
    exact hG.parts _ (hF.mem k hk) t (by rw [h1]; exact ht)
  have hq : ∀ t ∈ qs, GoodPart t := fun t ht => (hpl t (by simp [ht])).good
  rw [h2] at hp3
  have e1 : pts ms (k + 1) = qs ++ [s] := by unfold pts; rw [if_neg (by omega), h1]
  have e2 : nam ms (k + 1) = s := by unfold nam; rw [h2]
  rw [e1, e2]
  congr 1
  unfold pts
  split
  · next h0 =>
    rw [h0, hF.root.1] at hp3
    by_cases hqn : qs = []
    · exact hqn
    · exact absurd hp3.symm (joinP_ne qs hqn hq)
  · next h0 =>
    have hm := hF.mem (parOf ms (k + 1) - 1) (by omega)
    rw [show parOf ms (k + 1) - 1 + 1 = parOf ms (k + 1) by omega] at hm
    rw [hp3]
    by_cases hqn : qs = []
    · subst hqn
      exfalso
      have := hG.parts _ hm [] (by rw [hp3]; simp [joinP_nil, Lib.Pa.els])
      exact this.good.ne rfl
    · exact (els_join qs hqn (fun t ht => (hq t ht).no)).symm
theorem path_pts {rock : Bool} {ms : List Node} {fs : List File} (hF : Fam rock ms fs) (i : Nat) (hi : i < ms.length) : (nodeAt ms i).f.p = joinP (pts ms i) := by
  unfold pts
  split
  · next h => subst h; rw [hF.root.1]; rfl
  · exact (joinP_els _).symm
theorem pts_inj {rock : Bool} {ms : List Node} {fs : List File} (hG : Good fs) (hF : Fam rock ms fs) (i j : Nat) (hi : i < ms.length) (hj : j < ms.length) (e : pts ms i = pts ms j) : i = j := by
  have hl := hF.len
  have h1 := path_pts hF i hi
  have h2 := path_pts hF j hj
  rw [e, ← h2] at h1
  by_cases hi0 : i = 0
  · subst hi0
    by_cases hj0 : j = 0
    · exact hj0.symm
    · exfalso
      rw [show pts ms 0 = [] from rfl] at e
      unfold pts at e
      rw [if_neg hj0] at e
      exact els_ne _ e.symm
  · by_cases hj0 : j = 0
    · exfalso
      subst hj0
      rw [show pts ms 0 = [] from rfl] at e
      unfold pts at e
      rw [if_neg hi0] at e
      exact els_ne _ e
    · have f1 := hF.file (i - 1) (by omega)
      have f2 := hF.file (j - 1) (by omega)
      rw [show i - 1 + 1 = i by omega] at f1
      rw [show j - 1 + 1 = j by omega] at f2
      rw [List.getElem?_eq_getElem (by omega)] at f1 f2
      have := hG.apart (i - 1) (j - 1) (by omega) (by omega) (by rw [Option.some.inj f1, Option.some.inj f2]; exact h1)
      omega
/-- What a record of a plain tree is named. -/
theorem id_plain {ms : List Node} {fs : List File} (hF : Fam false ms fs) (k : Nat) (hk : k < fs.length) : (nodeAt ms (k + 1)).id.data.toList = nam ms (k + 1) ++ (if dirOf ms (k + 1) then [] else [59, 49]) := by
  rw [hF.id k hk]
  show idOf false (k + 1) _ _ = _
  unfold idOf nam
  show _ ++ (if (nodeAt ms (k + 1)).f.dir then _ else _) = _
  simp only [Bool.false_eq_true, if_false]
  rfl
theorem nam_plain {rock : Bool} {ms : List Node} {fs : List File} (hG : Good fs) (hF : Fam rock ms fs) (k : Nat) (hk : k < fs.length) : Plain (nam ms (k + 1)) := by
  have hl := hF.len
  refine hG.plain hF (k + 1) (by omega) _ ?_
  rw [pts_step hG hF k hk]; simp
/-- The kid of a name. -/
def kidOf (ms : List Node) (i : Nat) (q : List UInt8) : Option Nat := (kidsOf ms i).find? (fun k => decide ((nodeAt ms k).id.data.toList = q))
def locate (ms : List Node) : Nat → List (List UInt8) → Option Nat
  | i, [] => some i
  | i, q :: qs => (kidOf ms i q).bind fun k => locate ms k qs
theorem locate_append (ms : List Node) (i : Nat) (qs rs : List (List UInt8)) : locate ms i (qs ++ rs) = (locate ms i qs).bind fun k => locate ms k rs := by
  induction qs generalizing i with
  | nil => rfl
  | cons q qs ih =>
    simp only [List.cons_append, locate]
    cases kidOf ms i q with
    | none => rfl
    | some k => exact ih k
theorem find_unique {l : List Nat} {p : Nat → Bool} {i : Nat} (h1 : i ∈ l) (h2 : p i = true) (h3 : ∀ k ∈ l, p k = true → k = i) : l.find? p = some i := by
  cases h : l.find? p with
  | none =>
    rw [List.find?_eq_none] at h
    exact absurd h2 (h i h1)
  | some k =>
    rw [h3 k (List.mem_of_find?_eq_some h) (List.find?_some h)]
theorem kid_name {ms : List Node} {fs : List File} (hG : Good fs) (hF : Fam false ms fs) (i k : Nat) (q : List UInt8) (hi : i < ms.length) (hq : (59 : UInt8) ∉ q) (hk : k ∈ kidsOf ms i) (e : (nodeAt ms k).id.data.toList = q) : dirOf ms k = true ∧ pts ms k = pts ms i ++ [q] ∧ k < ms.length ∧ 0 < k := by
  have hl := hF.len
  obtain ⟨h1, h2, h3⟩ := (hF.kids i hi k).1 hk
  have hid := id_plain hF (k - 1) (by omega)
  have hst := pts_step hG hF (k - 1) (by omega)
  rw [show k - 1 + 1 = k by omega] at hid hst
  rw [e] at hid
  by_cases hd : dirOf ms k = true
  · rw [if_pos hd, List.append_nil] at hid
    rw [h3, ← hid] at hst
    exact ⟨hd, hst, h2, h1⟩
  · rw [if_neg hd] at hid
    exact absurd (by rw [hid]; simp) hq
theorem locate_par {ms : List Node} {fs : List File} (hG : Good fs) (hF : Fam false ms fs) : ∀ n i, i < n → i < ms.length → (i = 0 ∨ dirOf ms i = true) → locate ms 0 (pts ms i) = some i := by
  have hl := hF.len
  intro n
  induction n with
  | zero => intro i hi; omega
  | succ n ih =>
    intro i hin hi hd
    by_cases h0 : i = 0
    · subst h0; rfl
    · have hd' : dirOf ms i = true := hd.resolve_left h0
      have hst := pts_step hG hF (i - 1) (by omega)
      obtain ⟨hp1, hp2, hp3, hp4⟩ := hF.par (i - 1) (by omega)
      have hpn := nam_plain hG hF (i - 1) (by omega)
      have hid := id_plain hF (i - 1) (by omega)
      rw [show i - 1 + 1 = i by omega] at hst hp1 hp2 hp3 hp4 hpn hid
      rw [if_pos hd', List.append_nil] at hid
      rw [hst, locate_append, ih (parOf ms i) (by omega) (by omega) (.inr hp2)]
      have hk : kidOf ms (parOf ms i) (nam ms i) = some i := by
        refine find_unique ((hF.kids _ (by omega) i).2 ⟨by omega, hi, rfl⟩) (by simpa using hid) ?_
        intro k hk hke
        obtain ⟨h1, h2, h3, h4⟩ := kid_name hG hF (parOf ms i) k (nam ms i) (by omega) hpn.semi hk (by simpa using hke)
        exact pts_inj hG hF k i h3 hi (by rw [h2, hst])
      show (locate ms (parOf ms i) [nam ms i]) = some i
      simp only [locate, hk, Option.bind_some]
theorem locate_dir {ms : List Node} {fs : List File} (hG : Good fs) (hF : Fam false ms fs) (i : Nat) (hi : i < ms.length) (hd : i = 0 ∨ dirOf ms i = true) : locate ms 0 (pts ms i) = some i := locate_par hG hF (i + 1) i (Nat.lt_succ_self i) hi hd
theorem locate_file {ms : List Node} {fs : List File} (hG : Good fs) (hF : Fam false ms fs) (i : Nat) (hi : i < ms.length) (h0 : 0 < i) (hd : dirOf ms i = false) : locate ms 0 (pts ms i) = none := by
  have hl := hF.len
  have hst := pts_step hG hF (i - 1) (by omega)
  obtain ⟨hp1, hp2, hp3, hp4⟩ := hF.par (i - 1) (by omega)
  have hpn := nam_plain hG hF (i - 1) (by omega)
  rw [show i - 1 + 1 = i by omega] at hst hp1 hp2 hp3 hp4 hpn
  rw [hst, locate_append, locate_dir hG hF (parOf ms i) (by omega) (.inr hp2)]
  have hk : kidOf ms (parOf ms i) (nam ms i) = none := by
    unfold kidOf
    rw [List.find?_eq_none]
    intro k hk hke
    obtain ⟨h1, h2, h3, h4⟩ := kid_name hG hF (parOf ms i) k (nam ms i) (by omega) hpn.semi hk (by simpa using hke)
    have := pts_inj hG hF k i h3 hi (by rw [h2, hst])
    subst this
    rw [h1] at hd; cases hd
  show locate ms (parOf ms i) [nam ms i] = none
  simp only [locate, hk]; rfl
end Go.Proofs.YtilgpaeeleknhaaGreatDoor
end
