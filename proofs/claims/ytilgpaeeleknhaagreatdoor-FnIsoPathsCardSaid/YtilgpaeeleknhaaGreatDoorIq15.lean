/-
  DERIVED. A part of the proof of laws.FnIsoPaths (for every input the law returns true and each argument reads as before; the listed variables read as listed when the call begins). It holds:
  · A map of texts to truths that a call keeps to itself, as the list of what was stored; what a tree's names are.
-/
import Derived.Test.YtilgpaeeleknhaaGreatDoorIq13
import Derived.Maps.OwnSet
import Derived.StringKeys
section
namespace Go.Proofs.YtilgpaeeleknhaaGreatDoor
open Go Go.RowKit
set_option linter.unusedSimpArgs false
set_option linter.unusedVariables false
/-- The map D holds what was stored, the last first. -/
structure MapS (D : DataW Unit) (S : List (List UInt8 × Bool)) : Prop where
  map : Maps.IsMap D
  has : ∀ k, Maps.has D (.string k) = (S.lookup k).isSome
  get : ∀ k, D.atKey (.string k) (.lit (.bool false)) = .lit (.bool ((S.lookup k).getD false))
theorem MapS.nil : MapS (.map []) [] := ⟨Maps.isMap_empty, fun k => rfl, fun k => rfl⟩
theorem MapS.put {D : DataW Unit} {S : List (List UInt8 × Bool)} (h : MapS D S) (k : List UInt8) (b : Bool) : MapS (D.put (.string k) (.lit (.bool b))) ((k, b) :: S) := by
  refine ⟨h.map.put _ _, fun q => ?_, fun q => ?_⟩
  · by_cases e : q = k
    · subst e; rw [Maps.has_put_same h.map (show WideAt.IsKeyLit (.string q) from trivial)]; simp [List.lookup]
    · rw [Maps.has_put_other (by intro e2; injection e2 with e2; exact e e2), h.has]
      have : (q == k) = false := by simpa using e
      simp [List.lookup, this]
  · by_cases e : q = k
    · subst e; rw [Maps.atKey_put_same h.map (show WideAt.IsKeyLit (.string q) from trivial)]; simp [List.lookup]
    · rw [Maps.atKey_put_other (by intro e2; injection e2 with e2; exact e e2), h.get]
      have : (q == k) = false := by simpa using e
      simp [List.lookup, this]
theorem keyS : Maps.Keyed Tryz.prog 9 := Maps.string_keyed Tryz.underlying9
theorem zero4 (w : World) : (zeroValue 4).run Tryz.prog w = .ok (.bool false) w := by kernel_rfl
theorem plain4 {v : Value} {d : DataW Unit} {ps : List MemPlace} (h : plainElem Tryz.prog 4 v = some (d, ps)) : ∃ x, v = .bool x ∧ d = .lit (.bool x) := by
  have hu := Tryz.underlying4
  unfold plainElem at h
  generalize Tryz.prog.underlying 4 = u at h hu
  subst hu
  cases v <;> simp at h
  exact ⟨_, rfl, h.1.symm⟩
section
variable (w : World) {ops : Array Oper} {rest : List Oper} {o : Oper} {a : Act} {Q : Exit → Act → World → Prop}
abbrev OwnS (w : World) (b n : Nat) (D : DataW Unit) : Prop := w.ownsMap Tryz.prog 9 (plainElem Tryz.prog 4) b n D
theorem lookS_ok (hg : o.guard = none) (m x : Operand) (hop : o.op = Op.lookup 49 m x true) (b n : Nat) (D : DataW Unit) (S : List (List UInt8 × Bool)) (hm : a.eval m = .map (some b)) (hown : OwnS w b n D) (hS : MapS D S) (s : ByteArray) (hx : a.eval x = .string s) (hs : s.size ≤ maxLen)
    (hK : wpList Tryz.prog ops Q rest (a.put o.dst (.tuple #[.bool ((S.lookup s.data.toList).getD false), .bool (S.lookup s.data.toList).isSome])) w) : wpList Tryz.prog ops Q (o :: rest) a w :=
  wpList_lookup_own_ok w hg m x 49 hop 9 4 keyS Tryz.underlying49 (plainElem Tryz.prog 4) (zero4 w) (.lit (.bool false)) [] (plainElem_bool Tryz.underlying4 false) b n D hm hown (.string s) (.string s.data.toList) hx (WideMaps.keyOf_string_mk Tryz.underlying9 hs) (fun v ps hv => by
    obtain ⟨y, rfl, e⟩ := plain4 hv
    rw [hS.get] at e
    injection e with e; injection e with e
    rw [hS.has, ← e]; exact hK)
theorem putS (hg : o.guard = none) (m x v : Operand) (hop : o.op = Op.mapUpdate 49 m x v) (b n : Nat) (D : DataW Unit) (S : List (List UInt8 × Bool)) (hm : a.eval m = .map (some b)) (hown : OwnS w b n D) (hS : MapS D S) (hn : n < 4000000000) (s : ByteArray) (c : Bool) (hx : a.eval x = .string s) (hv : a.eval v = .bool c) (hs : s.size ≤ maxLen)
    (hK : ∀ w' D', OwnS w' b (n + 1) D' → MapS D' ((s.data.toList, c) :: S) → w.grownBy w' (some b) → wpList Tryz.prog ops Q rest (a.put o.dst undef) w') : wpList Tryz.prog ops Q (o :: rest) a w :=
  wpList_mapUpdate_own w hg m x v 49 hop 9 4 keyS Tryz.underlying49 (plainElem Tryz.prog 4) b n D hm hown (by unfold maxLen; omega) (.string s) (.bool c) (.string s.data.toList) hx hv (WideMaps.keyOf_string_mk Tryz.underlying9 hs) (.lit (.bool c)) [] (plainElem_bool Tryz.underlying4 c) (fun w' h1 h2 => hK w' _ h1 (hS.put _ _) h2)
theorem lookS (hg : o.guard = none) (m x : Operand) (hop : o.op = Op.lookup 49 m x false) (b n : Nat) (D : DataW Unit) (S : List (List UInt8 × Bool)) (hm : a.eval m = .map (some b)) (hown : OwnS w b n D) (hS : MapS D S) (s : ByteArray) (hx : a.eval x = .string s) (hs : s.size ≤ maxLen)
    (hK : wpList Tryz.prog ops Q rest (a.put o.dst (.bool ((S.lookup s.data.toList).getD false))) w) : wpList Tryz.prog ops Q (o :: rest) a w := by
  refine wpList_plain hg fun K' hK' => ?_
  obtain ⟨v, ps, hrun, hv⟩ := hown.lookup keyS Tryz.underlying49 (zero4 w) (plainElem_bool Tryz.underlying4 false) (WideMaps.keyOf_string_mk Tryz.underlying9 hs)
  obtain ⟨y, rfl, e⟩ := plain4 hv
  rw [hS.get] at e
  injection e with e; injection e with e
  rw [← e] at hrun
  unfold Oper.wp
  simp [execOp, hop, hm, hx, hrun, Result.andThen]
  exact hK' _ _ hK
theorem putS0 (hg : o.guard = none) (m x v : Operand) (hop : o.op = Op.insert 49 m x v) (b n : Nat) (D : DataW Unit) (S : List (List UInt8 × Bool)) (hm : a.eval m = .map (some b)) (hown : OwnS w b n D) (hS : MapS D S) (hn : n < 4000000000) (s : ByteArray) (c : Bool) (hx : a.eval x = .string s) (hv : a.eval v = .bool c) (hs : s.size ≤ maxLen)
    (hK : ∀ w' D', OwnS w' b (n + 1) D' → MapS D' ((s.data.toList, c) :: S) → w.grownBy w' (some b) → wpList Tryz.prog ops Q rest (a.put o.dst undef) w') : wpList Tryz.prog ops Q (o :: rest) a w := by
  refine wpList_plain hg fun K' hK' => ?_
  obtain ⟨w', hrun, r1, r2⟩ := hown.update keyS Tryz.underlying49 (by unfold maxLen; omega) (WideMaps.keyOf_string_mk Tryz.underlying9 hs) (plainElem_bool Tryz.underlying4 c)
  unfold Oper.wp
  simp [execOp, hop, hm, hx, hv, hrun, Result.andThen]
  exact hK' _ _ (hK w' _ r1 (hS.put _ _) r2)
end
theorem atInsert {m x v : Operand} {P : Program} {ops : Array Oper} {rest : List Oper} {Q : Exit → Act → World → Prop} {a : Act} {w : World} {d : Option Tmp} {ty : TypeId} {pos : String} {aft : Array Edge} {g : Option (Nat × Bool)} (h : wpList P ops Q ({ dst := d, op := .insert 49 m x v, type := ty, pos := pos, after := aft, guard := g } :: rest) a w) :
    wpList P ops Q ({ dst := d, op := .insert 49 m x v, type := ty, pos := pos, after := aft, guard := g } :: rest) a w := h
theorem atMapUpdate {m x v : Operand} {P : Program} {ops : Array Oper} {rest : List Oper} {Q : Exit → Act → World → Prop} {a : Act} {w : World} {d : Option Tmp} {ty : TypeId} {pos : String} {aft : Array Edge} {g : Option (Nat × Bool)} (h : wpList P ops Q ({ dst := d, op := .mapUpdate 49 m x v, type := ty, pos := pos, after := aft, guard := g } :: rest) a w) :
    wpList P ops Q ({ dst := d, op := .mapUpdate 49 m x v, type := ty, pos := pos, after := aft, guard := g } :: rest) a w := h
theorem atLookup {m x : Operand} {c : Bool} {P : Program} {ops : Array Oper} {rest : List Oper} {Q : Exit → Act → World → Prop} {a : Act} {w : World} {d : Option Tmp} {ty : TypeId} {pos : String} {aft : Array Edge} {g : Option (Nat × Bool)} (h : wpList P ops Q ({ dst := d, op := .lookup 49 m x c, type := ty, pos := pos, after := aft, guard := g } :: rest) a w) :
    wpList P ops Q ({ dst := d, op := .lookup 49 m x c, type := ty, pos := pos, after := aft, guard := g } :: rest) a w := h
/-- A truth comes back, of which Q holds. -/
def BoolR (e : Ending) (Q : Bool → Prop) : Prop := ∃ r, e = .returned (.bool r) ∧ Q r
theorem BoolR.intro {Q : Bool → Prop} (r : Bool) (h : Q r) : BoolR (.returned (.bool r)) Q := ⟨r, rfl, h⟩
/-- What a part of a path must be. -/
structure PlainName (s : List UInt8) : Prop where
  chr : ∀ b ∈ s, (65 ≤ b.toNat ∧ b.toNat ≤ 90) ∨ (48 ≤ b.toNat ∧ b.toNat ≤ 57) ∨ b.toNat = 95 ∨ b.toNat = 46
  head : s.head? ≠ some 46
  last : s.getLast? ≠ some 46
  len : 1 ≤ s.length ∧ s.length ≤ 12
theorem PlainName.plain {s : List UInt8} (h : PlainName s) : Plain s := by
  have hno : ∀ c : UInt8, c.toNat = 59 ∨ c.toNat = 92 ∨ c.toNat = 0 ∨ c.toNat = 47 → c ∉ s := by
    intro c hc hm
    have := h.chr c hm
    omega
  refine ⟨⟨?_, hno 47 (by decide), ?_, ?_⟩, hno 59 (by decide), hno 92 (by decide), hno 0 (by decide), h.head, h.last, h.len.2, fun b hb => ?_⟩
  · intro e; have := h.len.1; rw [e] at this; simp at this
  · intro e; have := h.head; rw [e] at this; simp at this
  · intro e; have := h.head; rw [e] at this; simp at this
  · have := h.chr b hb; omega
structure FreeName (s : List UInt8) : Prop where
  no : (47 : UInt8) ∉ s ∧ (0 : UInt8) ∉ s
  dot : s ≠ [46] ∧ s ≠ [46, 46]
  len : 1 ≤ s.length ∧ s.length ≤ 100
def okPart (plain : Bool) (s : List UInt8) : Prop := if plain then PlainName s else FreeName s
/-- What the statements ask of a tree. -/
structure TreeG (plain : Bool) (l : List File) : Prop where
  part : ∀ f ∈ l, ∀ s ∈ Lib.Pa.els f.p, okPart plain s
  ahead : Ahead l
  apart : ∀ i j (hi : i < l.length) (hj : j < l.length), l[i].p = l[j].p → i = j
  deep : ∀ f ∈ l, (Lib.Pa.els f.p).length ≤ 7
  dirs : ∀ f ∈ l, f.dir = true → f.data.size = 0 ∧ f.target.size = 0
  links : ∀ f ∈ l, f.target.size ≠ 0 → f.data.size = 0 ∧ plain = false ∧ f.target.size ≤ 200
theorem TreeG.nil (plain : Bool) : TreeG plain [] := by
  refine ⟨?_, ?_, ?_, ?_, ?_, ?_⟩
  · intro f hf; cases hf
  · intro k hk; cases hk
  · intro i j hi; cases hi
  · intro f hf; cases hf
  · intro f hf; cases hf
  · intro f hf; cases hf
/-- What the map of the paths that were seen holds. -/
def seenS (l : List File) : List (List UInt8 × Bool) := l.foldl (fun S f => (f.p, f.dir) :: S) [([], true)]
theorem seenS_snoc (l : List File) (f : File) : seenS (l ++ [f]) = (f.p, f.dir) :: seenS l := by simp [seenS, List.foldl_append]
theorem seenS_true (l : List File) (k : List UInt8) (h : (seenS l).lookup k = some true) : k = [] ∨ ∃ j, ∃ hj : j < l.length, l[j].dir = true ∧ l[j].p = k := by
  suffices ∀ (m : List File) (S : List (List UInt8 × Bool)), (m.foldl (fun S f => (f.p, f.dir) :: S) S).lookup k = some true → S.lookup k = some true ∨ ∃ j, ∃ hj : j < m.length, m[j].dir = true ∧ m[j].p = k by
    rcases this l _ h with h1 | h1
    · left
      by_cases e : k = []
      · exact e
      · have : (k == []) = false := by simpa using e
        simp [List.lookup, this] at h1
    · exact .inr h1
  intro m
  induction m with
  | nil => intro S h; exact .inl h
  | cons f m ih =>
    intro S h
    simp only [List.foldl_cons] at h
    rcases ih _ h with h1 | ⟨j, hj, h1⟩
    · by_cases e : k = f.p
      · have : (k == f.p) = true := by simpa using e
        simp only [List.lookup, this] at h1
        exact .inr ⟨0, by simp, by simpa using h1, e.symm⟩
      · have : (k == f.p) = false := by simpa using e
        simp only [List.lookup, this] at h1
        exact .inl h1
    · exact .inr ⟨j + 1, by simpa using hj, by simpa using h1⟩
theorem seenS_none (l : List File) (k : List UInt8) (h : ((seenS l).lookup k).isSome = false) : k ≠ [] ∧ ∀ f ∈ l, f.p ≠ k := by
  suffices ∀ (m : List File) (S : List (List UInt8 × Bool)), ((m.foldl (fun S f => (f.p, f.dir) :: S) S).lookup k).isSome = false → (S.lookup k).isSome = false ∧ ∀ f ∈ m, f.p ≠ k by
    obtain ⟨h1, h2⟩ := this l _ h
    refine ⟨?_, h2⟩
    intro e; subst e; simp [List.lookup] at h1
  intro m
  induction m with
  | nil => intro S h; exact ⟨h, by simp⟩
  | cons f m ih =>
    intro S h
    simp only [List.foldl_cons] at h
    obtain ⟨h1, h2⟩ := ih _ h
    by_cases e : k = f.p
    · have : (k == f.p) = true := by simpa using e
      simp [List.lookup, this] at h1
    · have : (k == f.p) = false := by simpa using e
      simp only [List.lookup, this] at h1
      refine ⟨h1, fun g hg => ?_⟩
      rcases List.mem_cons.1 hg with rfl | hg
      · exact fun e2 => e e2.symm
      · exact h2 g hg
theorem TreeG.snoc {plain : Bool} {l : List File} {f : File} (h : TreeG plain l) (h1 : ∀ s ∈ Lib.Pa.els f.p, okPart plain s) (h2 : (seenS l).lookup (cutLast f.p).1 = some true) (h3 : ((seenS l).lookup f.p).isSome = false) (h4 : (Lib.Pa.els f.p).length ≤ 7)
    (h5 : f.dir = true → f.data.size = 0 ∧ f.target.size = 0) (h6 : f.target.size ≠ 0 → f.data.size = 0 ∧ plain = false ∧ f.target.size ≤ 200) : TreeG plain (l ++ [f]) := by
  have hm : ∀ g ∈ l ++ [f], g ∈ l ∨ g = f := fun g hg => by simpa using hg
  refine ⟨?_, ?_, ?_, ?_, ?_, ?_⟩
  · intro g hg; rcases hm g hg with hg | rfl
    · exact h.part g hg
    · exact h1
  · intro k hk
    rw [List.length_append, List.length_singleton] at hk
    by_cases hkl : k < l.length
    · obtain ⟨a1, a2⟩ := h.ahead k hkl
      rw [List.getElem_append_left hkl]
      refine ⟨a1, a2.imp id fun ⟨j, hj, b1, b2⟩ => ⟨j, hj, ?_, ?_⟩⟩
      · rw [List.getElem_append_left (by omega)]; exact b1
      · rw [List.getElem_append_left (by omega)]; exact b2
    · have e : k = l.length := by omega
      subst e
      rw [List.getElem_append_right (Nat.le_refl _)]
      simp only [Nat.sub_self, List.getElem_singleton]
      obtain ⟨qs, s, e1, e2⟩ := els_cut f.p
      refine ⟨?_, ?_⟩
      · rw [e2]
        have := h1 s (by rw [e1]; simp)
        unfold okPart at this
        intro e0
        have e0 : s = [] := e0
        rw [e0] at this
        split at this
        · have := this.len.1; simp at this
        · have := this.len.1; simp at this
      · rcases seenS_true l _ h2 with h7 | ⟨j, hj, b1, b2⟩
        · exact .inl h7
        · refine .inr ⟨j, hj, ?_, ?_⟩
          · rw [List.getElem_append_left hj]; exact b1
          · rw [List.getElem_append_left hj]; exact b2
  · have hn := (seenS_none l f.p h3).2
    intro i j hi hj
    rw [List.length_append, List.length_singleton] at hi hj
    by_cases hil : i < l.length
    · rw [List.getElem_append_left hil]
      by_cases hjl : j < l.length
      · rw [List.getElem_append_left hjl]; exact h.apart i j hil hjl
      · intro e
        exfalso
        rw [List.getElem_append_right (by omega)] at e
        simp only [List.getElem_singleton] at e
        exact hn _ (List.getElem_mem hil) e
    · by_cases hjl : j < l.length
      · intro e
        exfalso
        rw [List.getElem_append_left hjl, List.getElem_append_right (by omega)] at e
        simp only [List.getElem_singleton] at e
        exact hn _ (List.getElem_mem hjl) e.symm
      · intro _; omega
  · intro g hg; rcases hm g hg with hg | rfl
    · exact h.deep g hg
    · exact h4
  · intro g hg; rcases hm g hg with hg | rfl
    · exact h.dirs g hg
    · exact h5
  · intro g hg; rcases hm g hg with hg | rfl
    · exact h.links g hg
    · exact h6
theorem joinP_len (ps : List (List UInt8)) (n : Nat) (h : ∀ s ∈ ps, s.length ≤ n) : (joinP ps).length ≤ ps.length * (n + 1) := by
  induction ps with
  | nil => simp [joinP_nil]
  | cons s ps ih =>
    have h1 := h s (by simp)
    have h2 := ih (fun t ht => h t (by simp [ht]))
    have e : (ps.length + 1) * (n + 1) = ps.length * (n + 1) + (n + 1) := Nat.succ_mul _ _
    by_cases hp : ps = []
    · subst hp; rw [joinP_one]; simp; omega
    · rw [joinP_cons s ps hp, List.length_append, List.length_cons, List.length_cons]; omega
theorem TreeG.good {l : List File} (h : TreeG true l) (hl : l.length ≤ 40) : Good l ∧ ∀ f ∈ l, f.p.length ≤ 900 := by
  refine ⟨⟨hl, fun f hf s hs => ?_, h.ahead, h.apart⟩, fun f hf => ?_⟩
  · have := h.part f hf s hs
    unfold okPart at this
    rw [if_pos rfl] at this
    exact this.plain
  · have h1 := joinP_els f.p
    have h2 := joinP_len (Lib.Pa.els f.p) 12 (fun s hs => by
      have := h.part f hf s hs
      unfold okPart at this
      rw [if_pos rfl] at this
      exact this.len.2)
    have h3 := h.deep f hf
    rw [h1] at h2
    have : (Lib.Pa.els f.p).length * (12 + 1) ≤ 7 * (12 + 1) := Nat.mul_le_mul_right _ h3
    omega
end Go.Proofs.YtilgpaeeleknhaaGreatDoor
end
