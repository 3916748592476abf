/- A part of the proof of laws.FnIsoRock (see the last text). -/
import Derived.Test.YtilgpaeeleknhaaGreatDoorJr12
import Derived.Test.YtilgpaeeleknhaaGreatDoorJr04
set_option linter.unusedSimpArgs false
set_option linter.unusedVariables false
set_option maxRecDepth 1000000
set_option maxHeartbeats 8000000
namespace Go.Proofs.YtilgpaeeleknhaaGreatDoor
open Go Go.RowKit
abbrev File.p (f : File) : List UInt8 := f.path.data.toList
theorem placeOf_spec (d : List UInt8) (l : List File) (h : placeOf d l < l.length) : (l[placeOf d l]).dir = true /\ (l[placeOf d l]).p = d := by
 induction l with
 | nil => simp at h
 | cons f l ih =>
   by_cases hf : (f.dir && f.path.data.toList = d) = true
   . have e : placeOf d (f :: l) = 0 := by rw [placeOf, if_pos hf]
     simp only [e, List.getElem_cons_zero]
     simpa using hf
   . have e : placeOf d (f :: l) = placeOf d l + 1 := by rw [placeOf, if_neg hf]
     simp only [e, List.getElem_cons_succ]
     exact ih (by rw [e] at h; simpa using h)
theorem placeOf_lt (d : List UInt8) (l : List File) (f : File) (hf : f ∈ l) (h1 : f.dir = true) (h2 : f.p = d) : placeOf d l < l.length := by
 induction l with
 | nil => cases hf
 | cons g l ih =>
   by_cases hg : (g.dir && g.path.data.toList = d) = true
   . rw [placeOf, if_pos hg]; simp
   . rw [placeOf, if_neg hg]
     rcases List.mem_cons.1 hf with rfl | hf
     . exact absurd (by simpa using ⟨h1, h2⟩) hg
     . have := ih hf; simp; exact this
structure Fam (rock : Bool) (ns : List Node) (fs : List File) : Prop where
 len : ns.length = fs.length + 1
 root : (nodeAt ns 0).f = rootFile /\ parOf ns 0 = 0
 file : ∀ k, k < fs.length -> fs[k]? = some (nodeAt ns (k + 1)).f
 id : ∀ k, k < fs.length -> (nodeAt ns (k + 1)).id = ofL (idOf rock (k + 1) (cutLast (nodeAt ns (k + 1)).f.p).2 (nodeAt ns (k + 1)).f.dir)
 par : ∀ k, k < fs.length -> parOf ns (k + 1) < k + 1 /\ dirOf ns (parOf ns (k + 1)) = true /\ (nodeAt ns (parOf ns (k + 1))).f.p = (cutLast (nodeAt ns (k + 1)).f.p).1 /\ (cutLast (nodeAt ns (k + 1)).f.p).2 ≠ []
 kids : ∀ i, i < ns.length -> ∀ k, k ∈ kidsOf ns i ↔ 0 < k /\ k < ns.length /\ parOf ns k = i
 su : ∀ i, (nodeAt ns i).su = [] /\ (nodeAt ns i).more = []
theorem Fam.start (rock : Bool) : Fam rock [rootNode] [] := by
 refine ⟨rfl, ⟨rfl, rfl⟩, ?_, ?_, ?_, ?_, ?_⟩
 . intro k hk; cases hk
 . intro k hk; cases hk
 . intro k hk; cases hk
 . intro i hi k
   have : i = 0 := by simpa using hi
   subst this
   simp only [kidsOf, rootNode, List.getD_cons_zero, List.not_mem_nil, false_iff, List.length_singleton]
   omega
 . intro i
   cases i with
   | zero => exact ⟨rfl, rfl⟩
   | succ i => simp [nodeAt, rootNode]
theorem Fam.step {rock : Bool} {ns ms : List Node} {fs : List File} {f : File} (h : Fam rock ns fs) (hs : stepFile rock ns f = some ms) : Fam rock ms (fs ++ [f]) := by
 unfold stepFile at hs
 simp only at hs
 split at hs
 case isFalse => cases hs
 case isTrue hp =>
  split at hs
  . cases hs
  . next hne =>
    cases hs
    have hsp := placeOf_spec (cutLast f.path.data.toList).1 (ns.map (·.f)) (by simpa using hp)
    simp only [List.getElem_map] at hsp
    generalize placeOf (cutLast f.path.data.toList).1 (ns.map (·.f)) = p at hp hsp ⊢
    have hpe : ns.getD p rootNode = ns[p] := by simp [List.getD_eq_getElem?_getD, List.getElem?_eq_getElem hp]
    have hat := step_at hp { ns[p] with kids := ns[p].kids ++ [ns.length] } (newNode f (idOf rock ns.length (cutLast f.path.data.toList).2 f.dir) p (ns[p].level + 1))
    generalize hms : (ns.set p { ns[p] with kids := ns[p].kids ++ [ns.length] } ++ [newNode f (idOf rock ns.length (cutLast f.path.data.toList).2 f.dir) p (ns[p].level + 1)]) = ms at hat ⊢
    have hlen : ms.length = ns.length + 1 := by rw [<- hms]; simp
    have hold : ∀ i, i ≠ ns.length -> (nodeAt ms i).f = (nodeAt ns i).f /\ (nodeAt ms i).id = (nodeAt ns i).id /\ parOf ms i = parOf ns i /\ dirOf ms i = dirOf ns i /\ (nodeAt ms i).su = (nodeAt ns i).su /\ (nodeAt ms i).more = (nodeAt ns i).more := by
     intro i hi
     simp only [nodeAt, parOf, dirOf, hat i, if_neg hi]
     split
     . next e => subst e; rw [hpe]; exact ⟨rfl, rfl, rfl, rfl, rfl, rfl⟩
     . exact ⟨rfl, rfl, rfl, rfl, rfl, rfl⟩
    have hnew : nodeAt ms ns.length = newNode f (idOf rock ns.length (cutLast f.path.data.toList).2 f.dir) p (ns[p].level + 1) := by simp only [nodeAt, hat, if_pos]
    have hnl := h.len
    refine ⟨by rw [hlen, hnl]; simp, ?_, ?_, ?_, ?_, ?_, ?_⟩
    . have h0 := hold 0 (by omega)
      rw [h0.1, h0.2.2.1]; exact h.root
    . intro k hk
      rw [List.length_append, List.length_singleton] at hk
      by_cases hk' : k < fs.length
      . rw [(hold (k + 1) (by omega)).1, List.getElem?_append_left hk']; exact h.file k hk'
      . have : k = fs.length := by omega
        subst this
        rw [<- hnl, hnew]
        simp [newNode]
    . intro k hk
      rw [List.length_append, List.length_singleton] at hk
      by_cases hk' : k < fs.length
      . obtain ⟨h1, h2, _⟩ := hold (k + 1) (by omega)
        rw [h1, h2]; exact h.id k hk'
      . have : k = fs.length := by omega
        subst this
        rw [<- hnl, hnew]; rfl
    . intro k hk
      rw [List.length_append, List.length_singleton] at hk
      by_cases hk' : k < fs.length
      . obtain ⟨h1, h2, h3, _⟩ := hold (k + 1) (by omega)
        have hh := h.par k hk'
        obtain ⟨g1, g2, g3, g4, _⟩ := hold (parOf ns (k + 1)) (by omega)
        rw [h1, h3, g4, g1]; exact hh
      . have : k = fs.length := by omega
        subst this
        have e3 : parOf ms (fs.length + 1) = p := by
         rw [<- hnl]; show (nodeAt ms ns.length).parent = p; rw [hnew]; rfl
        obtain ⟨g1, g2, g3, g4, _⟩ := hold p (by omega)
        rw [e3, g4, g1, <- hnl, hnew]
        refine ⟨by omega, ?_, ?_, hne⟩
        . unfold dirOf; rw [hpe]; exact hsp.1
        . show (ns.getD p rootNode).f.p = _; rw [hpe]; exact hsp.2
    . intro i hi k
      rw [hlen] at hi
      have hk0 : kidsOf ms i = if i = ns.length then [] else if i = p then kidsOf ns p ++ [ns.length] else kidsOf ns i := by
       unfold kidsOf
       rw [hat]
       split
       . rfl
       . split
         . rw [hpe]
         . rfl
      have hpk : parOf ms k = if k = ns.length then p else parOf ns k := by
       by_cases hk : k = ns.length
       . subst hk
         rw [if_pos rfl]; show (nodeAt ms ns.length).parent = p; rw [hnew]; rfl
       . rw [if_neg hk]; exact (hold k hk).2.2.1
      rw [hk0, hpk, hlen]
      split
      . next hin =>
        subst hin
        simp only [List.not_mem_nil, false_iff]
        rintro ⟨h1, h2, h3⟩
        split at h3
        . omega
        . have : k - 1 < fs.length := by omega
          have hh := (h.par (k - 1) this).1
          have e : k - 1 + 1 = k := by omega
          rw [e] at hh; omega
      . next hin =>
        split
        . next hip =>
          subst hip
          rw [List.mem_append, List.mem_singleton, h.kids i (by omega)]
          constructor
          . rintro (⟨h1, h2, h3⟩ | rfl)
            . exact ⟨h1, by omega, by rw [if_neg (by omega)]; exact h3⟩
            . exact ⟨by omega, by omega, if_pos rfl⟩
          . rintro ⟨h1, h2, h3⟩
            by_cases hk : k = ns.length
            . exact .inr hk
            . rw [if_neg hk] at h3; exact .inl ⟨h1, by omega, h3⟩
        . next hip =>
          rw [h.kids i (by omega)]
          constructor
          . rintro ⟨h1, h2, h3⟩
            exact ⟨h1, by omega, by rw [if_neg (by omega)]; exact h3⟩
          . rintro ⟨h1, h2, h3⟩
            by_cases hk : k = ns.length
            . rw [if_pos hk] at h3; exact absurd h3.symm hip
            . rw [if_neg hk] at h3; exact ⟨h1, by omega, h3⟩
    . intro i
      by_cases hi : i = ns.length
      . subst hi; rw [hnew]; exact ⟨rfl, rfl⟩
      . obtain ⟨_, _, _, _, h5, h6⟩ := hold i hi
        rw [h5, h6]; exact h.su i
theorem addFiles_fam {rock : Bool} {l : List File} {ns ms : List Node} {fs : List File} (h : addFiles rock ns l = some ms) (hs : Fam rock ns fs) : Fam rock ms (fs ++ l) := by
 induction l generalizing ns fs with
 | nil => cases h; simpa using hs
 | cons f l ih =>
   simp only [addFiles] at h
   cases hf : stepFile rock ns f with
   | none => rw [hf] at h; cases h
   | some ms' =>
     rw [hf] at h
     have := ih h (hs.step hf)
     rwa [List.append_assoc] at this
def Ahead (fs : List File) : Prop := ∀ k (h : k < fs.length), (cutLast fs[k].p).2 ≠ [] /\ ((cutLast fs[k].p).1 = [] \/ ∃ j, ∃ hj : j < k, (fs[j]'(by omega)).dir = true /\ (fs[j]'(by omega)).p = (cutLast fs[k].p).1)
theorem addFiles_made {rock : Bool} {fs : List File} (h : Ahead fs) : ∃ ns, addFiles rock [rootNode] fs = some ns := by
 suffices ∀ k, k <= fs.length -> ∃ ns, addFiles rock [rootNode] (fs.take k) = some ns by
  have := this fs.length (Nat.le_refl _)
  rwa [List.take_length] at this
 intro k
 induction k with
 | zero => intro _; exact ⟨[rootNode], by simp [addFiles]⟩
 | succ k ih =>
   intro hk
   obtain ⟨ns, hns⟩ := ih (by omega)
   rw [addFiles_take rock fs k hk, hns]
   have hF := addFiles_fam hns (Fam.start rock)
   rw [List.nil_append] at hF
   obtain ⟨h1, h2⟩ := h k hk
   have hlt : placeOf (cutLast fs[k].p).1 (ns.map (·.f)) < (ns.map (·.f)).length := by
    have hnl := hF.len
    rw [List.length_take] at hnl
    rcases h2 with h2 | ⟨j, hj, h3, h4⟩
    . refine placeOf_lt _ _ rootFile ?_ rfl (by rw [h2]; rfl)
      have := hF.root.1
      rw [<- this]
      have h0 : 0 < ns.length := by omega
      rw [nodeAt, List.getD_eq_getElem?_getD, List.getElem?_eq_getElem h0]
      exact List.mem_map.2 ⟨ns[0], List.getElem_mem h0, rfl⟩
    . refine placeOf_lt _ _ (fs[j]'(by omega)) ?_ h3 h4
      have hf := hF.file j (by rw [List.length_take]; omega)
      rw [List.getElem?_take, if_pos hj, List.getElem?_eq_getElem (by omega)] at hf
      have hj1 : j + 1 < ns.length := by omega
      rw [Option.some.inj hf, nodeAt, List.getD_eq_getElem?_getD, List.getElem?_eq_getElem hj1]
      exact List.mem_map.2 ⟨ns[j + 1], List.getElem_mem hj1, rfl⟩
   rw [List.length_map] at hlt
   have hst : ∃ ns', stepFile rock ns fs[k] = some ns' := by
    unfold stepFile
    simp only
    rw [dif_pos hlt, if_neg h1]
    exact ⟨_, rfl⟩
   simpa using hst
structure Plain (s : List UInt8) : Prop where
 good : GoodPart s
 semi : (59 : UInt8) ∉ s
 back : (92 : UInt8) ∉ s
 zero : (0 : UInt8) ∉ s
 head : s.head? ≠ some 46
 last : s.getLast? ≠ some 46
 len : s.length <= 12
 asc : ∀ b ∈ s, 2 <= b.toNat /\ b.toNat < 128
structure Good (fs : List File) : Prop where
 count : fs.length <= 40
 parts : ∀ f ∈ fs, ∀ s ∈ Lib.Pa.els f.p, Plain s
 ahead : Ahead fs
 apart : ∀ i j (hi : i < fs.length) (hj : j < fs.length), fs[i].p = fs[j].p -> i = j
structure GoodX (fs : List File) : Prop where
 count : fs.length <= 40
 parts : ∀ f ∈ fs, ∀ s ∈ Lib.Pa.els f.p, GoodPart s
 ahead : Ahead fs
 apart : ∀ i j (hi : i < fs.length) (hj : j < fs.length), fs[i].p = fs[j].p -> i = j
theorem Good.x {fs : List File} (h : Good fs) : GoodX fs := ⟨h.count, fun f hf s hs => (h.parts f hf s hs).good, h.ahead, h.apart⟩
theorem Shuf.fam {rock : Bool} {ns ms : List Node} {fs : List File} (h : Shuf ns ms) (hF : Fam rock ns fs) : Fam rock ms fs := by
 have hl := h.1
 have hat : ∀ i, (nodeAt ms i).f = (nodeAt ns i).f /\ (nodeAt ms i).id = (nodeAt ns i).id /\ parOf ms i = parOf ns i /\ dirOf ms i = dirOf ns i /\ (kidsOf ms i).Perm (kidsOf ns i) /\ (nodeAt ms i).su = (nodeAt ns i).su /\ (nodeAt ms i).more = (nodeAt ns i).more := by
  intro i
  by_cases hi : i < ns.length
  . obtain ⟨l, hp, e⟩ := h.at i hi
    simp only [nodeAt, parOf, dirOf, kidsOf, e]
    exact ⟨by trivial, by trivial, by trivial, by trivial, hp, by trivial, by trivial⟩
  . have e1 : ns.getD i rootNode = rootNode := by simp [List.getD_eq_getElem?_getD, List.getElem?_eq_none (Nat.le_of_not_lt hi)]
    have e2 : ms.getD i rootNode = rootNode := by simp [List.getD_eq_getElem?_getD, List.getElem?_eq_none (show ms.length <= i by omega)]
    simp only [nodeAt, parOf, dirOf, kidsOf, e1, e2]
    exact ⟨by trivial, by trivial, by trivial, by trivial, List.Perm.refl _, by trivial, by trivial⟩
 refine ⟨by rw [<- hl]; exact hF.len, ?_, ?_, ?_, ?_, ?_, ?_⟩
 . rw [(hat 0).1, (hat 0).2.2.1]; exact hF.root
 . intro k hk; rw [(hat _).1]; exact hF.file k hk
 . intro k hk; rw [(hat _).1, (hat _).2.1]; exact hF.id k hk
 . intro k hk; rw [(hat (k + 1)).1, (hat (k + 1)).2.2.1, (hat _).2.2.2.1, (hat _).1]; exact hF.par k hk
 . intro i hi k; rw [(hat i).2.2.2.2.1.mem_iff, (hat k).2.2.1, <- hl]; exact hF.kids i (by omega) k
 . intro i; rw [(hat i).2.2.2.2.2.1, (hat i).2.2.2.2.2.2]; exact hF.su i
theorem els_cut (l : List UInt8) : ∃ qs s, Lib.Pa.els l = qs ++ [s] /\ cutLast l = (joinP qs, s) := by
 have hne := els_ne l
 refine ⟨(Lib.Pa.els l).dropLast, (Lib.Pa.els l).getLast hne, (List.dropLast_concat_getLast hne).symm, ?_⟩
 have h1 := joinP_els l
 rw [<- List.dropLast_concat_getLast hne] at h1
 have h2 := cutLast_join (Lib.Pa.els l).dropLast ((Lib.Pa.els l).getLast hne) (els_no l _ (List.getLast_mem hne))
 rw [h1] at h2
 exact h2
def pts (ms : List Node) (i : Nat) : List (List UInt8) := if i = 0 then [] else Lib.Pa.els (nodeAt ms i).f.p
def nam (ms : List Node) (i : Nat) : List UInt8 := (cutLast (nodeAt ms i).f.p).2
theorem Fam.mem {rock : Bool} {ms : List Node} {fs : List File} (hF : Fam rock ms fs) (k : Nat) (hk : k < fs.length) : (nodeAt ms (k + 1)).f ∈ fs := List.mem_of_getElem? (hF.file k hk)
theorem Good.plain {rock : Bool} {ms : List Node} {fs : List File} (hG : Good fs) (hF : Fam rock ms fs) (i : Nat) (hi : i < ms.length) : ∀ s ∈ pts ms i, Plain s := by
 intro s hs
 unfold pts at hs
 split at hs
 . cases hs
 . have hl := hF.len
   have hm := hF.mem (i - 1) (by omega)
   rw [show i - 1 + 1 = i by omega] at hm
   exact hG.parts _ hm s hs
theorem pts_step {rock : Bool} {ms : List Node} {fs : List File} (hG : GoodX fs) (hF : Fam rock ms fs) (k : Nat) (hk : k < fs.length) : pts ms (k + 1) = pts ms (parOf ms (k + 1)) ++ [nam ms (k + 1)] := by
 have hl := hF.len
 obtain ⟨qs, s, h1, h2⟩ := els_cut (nodeAt ms (k + 1)).f.p
 obtain ⟨hp1, hp2, hp3, hp4⟩ := hF.par k hk
 have hpl : ∀ t ∈ qs ++ [s], GoodPart t := by
  intro t ht
  exact hG.parts _ (hF.mem k hk) t (by rw [h1]; exact ht)
 have hq : ∀ t ∈ qs, GoodPart t := fun t ht => hpl t (by simp [ht])
 rw [h2] at hp3
 have e1 : pts ms (k + 1) = qs ++ [s] := by unfold pts; rw [if_neg (by omega), h1]
 have e2 : nam ms (k + 1) = s := by unfold nam; rw [h2]
 rw [e1, e2]
 congr 1
 unfold pts
 split
 . next h0 =>
   rw [h0, hF.root.1] at hp3
   by_cases hqn : qs = []
   . exact hqn
   . exact absurd hp3.symm (joinP_ne qs hqn hq)
 . next h0 =>
   have hm := hF.mem (parOf ms (k + 1) - 1) (by omega)
   rw [show parOf ms (k + 1) - 1 + 1 = parOf ms (k + 1) by omega] at hm
   rw [hp3]
   by_cases hqn : qs = []
   . subst hqn
     exfalso
     have := hG.parts _ hm [] (by rw [hp3]; simp [joinP_nil, Lib.Pa.els])
     exact this.ne rfl
   . exact (els_join qs hqn (fun t ht => (hq t ht).no)).symm
theorem path_pts {rock : Bool} {ms : List Node} {fs : List File} (hF : Fam rock ms fs) (i : Nat) (hi : i < ms.length) : (nodeAt ms i).f.p = joinP (pts ms i) := by
 unfold pts
 split
 . next h => subst h; rw [hF.root.1]; rfl
 . exact (joinP_els _).symm
theorem pts_inj {rock : Bool} {ms : List Node} {fs : List File} (hG : GoodX fs) (hF : Fam rock ms fs) (i j : Nat) (hi : i < ms.length) (hj : j < ms.length) (e : pts ms i = pts ms j) : i = j := by
 have hl := hF.len
 have h1 := path_pts hF i hi
 have h2 := path_pts hF j hj
 rw [e, <- h2] at h1
 by_cases hi0 : i = 0
 . subst hi0
   by_cases hj0 : j = 0
   . exact hj0.symm
   . exfalso
     rw [show pts ms 0 = [] from rfl] at e
     unfold pts at e
     rw [if_neg hj0] at e
     exact els_ne _ e.symm
 . by_cases hj0 : j = 0
   . exfalso
     subst hj0
     rw [show pts ms 0 = [] from rfl] at e
     unfold pts at e
     rw [if_neg hi0] at e
     exact els_ne _ e
   . have f1 := hF.file (i - 1) (by omega)
     have f2 := hF.file (j - 1) (by omega)
     rw [show i - 1 + 1 = i by omega] at f1
     rw [show j - 1 + 1 = j by omega] at f2
     rw [List.getElem?_eq_getElem (by omega)] at f1 f2
     have := hG.apart (i - 1) (j - 1) (by omega) (by omega) (by rw [Option.some.inj f1, Option.some.inj f2]; exact h1)
     omega
theorem id_plain {ms : List Node} {fs : List File} (hF : Fam false ms fs) (k : Nat) (hk : k < fs.length) : (nodeAt ms (k + 1)).id.data.toList = nam ms (k + 1) ++ (if dirOf ms (k + 1) then [] else [59, 49]) := by
 rw [hF.id k hk]
 show idOf false (k + 1) _ _ = _
 unfold idOf nam
 show _ ++ (if (nodeAt ms (k + 1)).f.dir then _ else _) = _
 simp only [Bool.false_eq_true, if_false]
 rfl
theorem nam_plain {rock : Bool} {ms : List Node} {fs : List File} (hG : Good fs) (hF : Fam rock ms fs) (k : Nat) (hk : k < fs.length) : Plain (nam ms (k + 1)) := by
 have hl := hF.len
 refine hG.plain hF (k + 1) (by omega) _ ?_
 rw [pts_step hG.x hF k hk]; simp
theorem find_unique {l : List Nat} {p : Nat -> Bool} {i : Nat} (h1 : i ∈ l) (h2 : p i = true) (h3 : ∀ k ∈ l, p k = true -> k = i) : l.find? p = some i := by
 cases h : l.find? p with
 | none =>
   rw [List.find?_eq_none] at h
   exact absurd h2 (h i h1)
 | some k =>
   rw [h3 k (List.mem_of_find?_eq_some h) (List.find?_some h)]
inductive RecsAt (b : List UInt8) : Nat -> List (List UInt8) -> Prop
 | done (i : Nat) : b.length <= i -> RecsAt b i []
 | skip (i : Nat) (rs : List (List UInt8)) : i < b.length -> b[i]? = some 0 -> RecsAt b (i + (2048 - i % 2048)) rs -> RecsAt b i rs
 | one (i : Nat) (r : List UInt8) (rs : List (List UInt8)) : Holds b i r -> i + r.length <= b.length -> RecsAt b (i + r.length) rs -> RecsAt b i (r :: rs)
theorem addRec_pre (out r : List UInt8) : ∃ t, addRec out r = out ++ t := by
 unfold addRec; split
 . exact ⟨zeros (2048 - out.length % 2048) ++ r, by simp⟩
 . exact ⟨r, rfl⟩
theorem recs_pre (rs : List (List UInt8)) (out : List UInt8) : ∃ t, rs.foldl addRec out = out ++ t := by
 induction rs generalizing out with
 | nil => exact ⟨[], by simp⟩
 | cons r rs ih =>
   obtain ⟨t, ht⟩ := addRec_pre out r
   obtain ⟨u, hu⟩ := ih (addRec out r)
   exact ⟨t ++ u, by simp only [List.foldl_cons]; rw [hu, ht, List.append_assoc]⟩
theorem padSec_pre (out : List UInt8) : ∃ t, padSec out = out ++ t := by
 unfold padSec; split
 . exact ⟨_, rfl⟩
 . exact ⟨[], by simp⟩
theorem Holds.mid (a c t : List UInt8) : Holds (a ++ c ++ t) a.length c := by
 intro j hj
 rw [List.append_assoc, List.getElem?_append_right (by omega), List.getElem?_append_left (by omega)]
 congr 1; omega
theorem recsAt_of (rs : List (List UInt8)) (out : List UInt8) (hr : ∀ r ∈ rs, r.length <= 2048) : RecsAt (padSec (rs.foldl addRec out)) out.length rs := by
 induction rs generalizing out with
 | nil =>
   simp only [List.foldl_nil]
   by_cases h : 0 < out.length % 2048
   . have e : padSec out = out ++ zeros (2048 - out.length % 2048) := by unfold padSec; rw [if_pos h]
     have hl : (padSec out).length = out.length + (2048 - out.length % 2048) := by rw [e, List.length_append, zeros_length]
     refine .skip _ _ (by rw [hl]; omega) ?_ (.done _ (by rw [hl]; exact Nat.le_refl _))
     rw [e, List.getElem?_append_right (Nat.le_refl _), zeros, List.getElem?_replicate, if_pos (by omega)]
   . have e : padSec out = out := by unfold padSec; rw [if_neg h]
     rw [e]; exact .done _ (Nat.le_refl _)
 | cons r rs ih =>
   have IH := ih (addRec out r) (fun r hr' => hr r (by simp [hr']))
   have hrl := hr r (by simp)
   simp only [List.foldl_cons]
   obtain ⟨t, ht⟩ := recs_pre rs (addRec out r)
   obtain ⟨u, hu⟩ := padSec_pre (rs.foldl addRec (addRec out r))
   have hb : padSec (rs.foldl addRec (addRec out r)) = addRec out r ++ (t ++ u) := by rw [hu, ht, List.append_assoc]
   by_cases h : 2048 < out.length % 2048 + r.length
   . have e : addRec out r = out ++ zeros (2048 - out.length % 2048) ++ r := by unfold addRec; rw [if_pos h]
     have el : (out ++ zeros (2048 - out.length % 2048)).length = out.length + (2048 - out.length % 2048) := by rw [List.length_append, zeros_length]
     have e2 : (addRec out r).length = out.length + (2048 - out.length % 2048) + r.length := by rw [e, List.length_append, el]
     have hm : out.length % 2048 < 2048 := Nat.mod_lt _ (by decide)
     refine .skip _ _ ?_ ?_ (.one _ _ _ ?_ ?_ ?_)
     . rw [hb, List.length_append, e2]; omega
     . rw [hb, e, List.append_assoc, List.append_assoc, List.getElem?_append_right (Nat.le_refl _), Nat.sub_self, List.getElem?_append_left (by rw [zeros_length]; omega), zeros, List.getElem?_replicate, if_pos (by omega)]
     . rw [<- el, hb, e]; exact Holds.mid _ _ _
     . rw [hb, List.length_append, e2]; omega
     . rw [<- e2]; exact IH
   . have e : addRec out r = out ++ r := by unfold addRec; rw [if_neg h]
     have e2 : (addRec out r).length = out.length + r.length := by rw [e, List.length_append]
     refine .one _ _ _ ?_ ?_ ?_
     . rw [hb, e]; exact Holds.mid _ _ _
     . rw [hb, List.length_append, e2]; omega
     . rw [<- e2]; exact IH
theorem dirBytes_recs (ns : List Node) (i : Nat) (h : ∀ r ∈ dirRecs ns i, r.length <= 2048) : RecsAt (dirBytes ns i) 0 (dirRecs ns i) := recsAt_of (dirRecs ns i) [] h
theorem padEven_get (l : List UInt8) (j : Nat) (h : j < l.length) : (padEven l)[j]? = l[j]? := by
 unfold padEven; split
 . exact List.getElem?_append_left h
 . rfl
theorem padEven_le (l : List UInt8) : l.length <= (padEven l).length := by
 rw [padEven_length]; unfold evn; split <;> omega
theorem isoRec_zero (id : List UInt8) (e s : Nat) (t : Int) (d : Bool) (su : List UInt8) : (isoRec id e s t d su)[0]? = some (u8 (recLen id.length su.length)) := by
 have hl := isoRec_length id e s t d su
 have : 33 <= recLen id.length su.length := by unfold recLen evn; split <;> split <;> omega
 unfold isoRec at hl ⊢
 simp only [List.length_set] at hl ⊢
 rw [List.getElem?_set, if_pos rfl, if_pos (by omega), hl]
theorem isoRec_get (id : List UInt8) (e s : Nat) (t : Int) (d : Bool) (su : List UInt8) (j : Nat) (h1 : 0 < j) (h2 : j < 33 + id.length) : (isoRec id e s t d su)[j]? = (recHead id.length e s t d ++ id)[j]? := by
 have hl : (recHead id.length e s t d ++ id).length = 33 + id.length := by rw [List.length_append, length_recHead]
 have hp := padEven_le (recHead id.length e s t d ++ id)
 unfold isoRec
 simp only
 rw [List.getElem?_set, if_neg (by omega), padEven_get _ _ (by rw [List.length_append]; omega), List.getElem?_append_left (by omega), padEven_get _ _ (by omega)]
theorem isoRec_head (id : List UInt8) (e s : Nat) (t : Int) (d : Bool) (su : List UInt8) (j : Nat) (h1 : 0 < j) (h2 : j < 33) : (isoRec id e s t d su)[j]? = (recHead id.length e s t d)[j]? := by
 rw [isoRec_get _ _ _ _ _ _ _ h1 (by omega), List.getElem?_append_left (by rw [length_recHead]; exact h2)]
theorem isoRec_id (id : List UInt8) (e s : Nat) (t : Int) (d : Bool) (su : List UInt8) (j : Nat) (h : j < id.length) : (isoRec id e s t d su)[33 + j]? = id[j]? := by
 rw [isoRec_get _ _ _ _ _ _ _ (by omega) (by omega), List.getElem?_append_right (by rw [length_recHead]; omega), length_recHead]
 congr 1; omega
theorem isoRec_su (id : List UInt8) (e s : Nat) (t : Int) (d : Bool) (su : List UInt8) (j : Nat) (h : j < su.length) : (isoRec id e s t d su)[evn (33 + id.length) + j]? = su[j]? := by
 have hl : (padEven (recHead id.length e s t d ++ id)).length = evn (33 + id.length) := by rw [padEven_length, List.length_append, length_recHead]
 have hp : 33 <= evn (33 + id.length) := by unfold evn; split <;> omega
 unfold isoRec
 simp only
 rw [List.getElem?_set, if_neg (by omega), padEven_get _ _ (by rw [List.length_append, hl]; omega), List.getElem?_append_right (by omega), hl]
 congr 1; omega
theorem BQ.all {rock : Bool} {ns : List Node} {fs : List File} {out : List Nat} (hF : Fam rock ns fs) (hq : BQ ns out out.length 0) : ∀ n i, i < n -> i < ns.length -> dirOf ns i = true -> i ∈ out := by
 have hl := hF.len
 intro n
 induction n with
 | zero => intro i hi; omega
 | succ n ih =>
   intro i hin hi hd
   by_cases h0 : i = 0
   . subst h0
     have := getD_mem hq.head.1
     rwa [hq.head.2] at this
   . obtain ⟨hp1, hp2, hp3, hp4⟩ := hF.par (i - 1) (by omega)
     rw [show i - 1 + 1 = i by omega] at hp1 hp2 hp3 hp4
     have hpo := ih (parOf ns i) (by omega) (by omega) hp2
     obtain ⟨t, ht, e⟩ := List.mem_iff_getElem.1 hpo
     have hk : i ∈ kidsOf ns (parOf ns i) := (hF.kids _ (by omega) i).2 ⟨by omega, hi, rfl⟩
     refine hq.done t i ht (.inl ⟨ht, ?_⟩) hd
     rw [List.getD_eq_getElem?_getD, List.getElem?_eq_getElem ht]
     show i ∈ kidsOf ns out[t]
     rw [e]; exact hk
structure Numbered (ms : List Node) (ds : List Nat) : Prop where
 mem : ∀ i, i ∈ ds ↔ i < ms.length /\ dirOf ms i = true
 nodup : ds.Nodup
 head : 0 < ds.length /\ ds.getD 0 0 = 0
 num : ∀ k ∈ ds, (nodeAt ms k).number = ds.idxOf k + 1
structure RecHas (r id : List UInt8) (e s : Nat) (d : Bool) (su : List UInt8) : Prop where
 len : r.length = recLen id.length su.length
 b0 : r[0]? = some (u8 (recLen id.length su.length))
 b1 : r[1]? = some 0
 e0 : r[2]? = some (u8 e)
 e1 : r[3]? = some (u8 (e / 256))
 e2 : r[4]? = some (u8 (e / 65536))
 e3 : r[5]? = some (u8 (e / 16777216))
 s0 : r[10]? = some (u8 s)
 s1 : r[11]? = some (u8 (s / 256))
 s2 : r[12]? = some (u8 (s / 65536))
 s3 : r[13]? = some (u8 (s / 16777216))
 time : ∀ j, j < 7 -> ∃ b, r[18 + j]? = some b
 flag : r[25]? = some (if d then 2 else 0)
 seq0 : r[28]? = some 1
 seq1 : r[29]? = some 0
 nlen : r[32]? = some (u8 id.length)
 name : ∀ j, j < id.length -> r[33 + j]? = id[j]?
theorem isoRec_has (id : List UInt8) (e s : Nat) (t : Int) (d : Bool) (su : List UInt8) : RecHas (isoRec id e s t d su) id e s d su := by
 have h := fun j (h1 : 0 < j) (h2 : j < 33) => isoRec_head id e s t d su j h1 h2
 refine ⟨isoRec_length id e s t d su, isoRec_zero id e s t d su, ?_, ?_, ?_, ?_, ?_, ?_, ?_, ?_, ?_, ?_, ?_, ?_, ?_, ?_, fun j hj => isoRec_id id e s t d su j hj⟩
 . rw [h 1 (by decide) (by decide)]; rfl
 . rw [h 2 (by decide) (by decide)]; rfl
 . rw [h 3 (by decide) (by decide)]; rfl
 . rw [h 4 (by decide) (by decide)]; rfl
 . rw [h 5 (by decide) (by decide)]; rfl
 . rw [h 10 (by decide) (by decide)]; rfl
 . rw [h 11 (by decide) (by decide)]; rfl
 . rw [h 12 (by decide) (by decide)]; rfl
 . rw [h 13 (by decide) (by decide)]; rfl
 . intro j hj
   have hl := length_recHead id.length e s t d
   rw [h (18 + j) (by omega) (by omega)]
   exact ⟨_, List.getElem?_eq_getElem (by rw [hl]; omega)⟩
 . rw [h 25 (by decide) (by decide)]; rfl
 . rw [h 28 (by decide) (by decide)]; rfl
 . rw [h 29 (by decide) (by decide)]; rfl
 . rw [h 32 (by decide) (by decide)]; rfl
theorem le32_nat (e : Nat) (h : e < 4294967296) : (u8 e).toNat + 256 * ((u8 (e / 256)).toNat + 256 * ((u8 (e / 65536)).toNat + 256 * ((u8 (e / 16777216)).toNat + 256 * 0))) = e := by
 simp only [u8_toNat]; omega
theorem pathsL_length (ns : List Node) (little : Bool) (ds : List Nat) : (pathsL ns little ds).length = (ds.map (fun i => 8 + evn (pathId ns i).length)).sum := by
 induction ds with
 | nil => rfl
 | cons d ds ih =>
   have e : pathsL ns little (d :: ds) = pathRec ns little d ++ pathsL ns little ds := rfl
   rw [e, List.length_append, ih, List.map_cons, List.sum_cons]
   congr 1
   unfold pathRec
   simp only [List.length_append, putL_length, List.length_cons, List.length_nil]
   unfold evn
   split <;> simp <;> omega
end Go.Proofs.YtilgpaeeleknhaaGreatDoor
