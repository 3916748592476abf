/- A part of the proof of laws.FnIsoRock (see the last text). -/
import Derived.Test.YtilgpaeeleknhaaGreatDoorJr19
import Derived.Maps.OwnSet
import Derived.StringKeys
import Derived.Test.YtilgpaeeleknhaaGreatDoorJr21
set_option linter.unusedSimpArgs false
set_option linter.unusedVariables false
set_option maxRecDepth 1000000
set_option maxHeartbeats 8000000
namespace Go.Proofs.YtilgpaeeleknhaaGreatDoor
open Go Go.RowKit
structure MapS (D : DataW Unit) (S : List (List UInt8 × Bool)) : Prop where
 map : Maps.IsMap D
 has : ∀ k, Maps.has D (.string k) = (S.lookup k).isSome
 get : ∀ k, D.atKey (.string k) (.lit (.bool false)) = .lit (.bool ((S.lookup k).getD false))
theorem MapS.nil : MapS (.map []) [] := ⟨Maps.isMap_empty, fun k => rfl, fun k => rfl⟩
theorem MapS.put {D : DataW Unit} {S : List (List UInt8 × Bool)} (h : MapS D S) (k : List UInt8) (b : Bool) : MapS (D.put (.string k) (.lit (.bool b))) ((k, b) :: S) := by
 refine ⟨h.map.put _ _, fun q => ?_, fun q => ?_⟩
 . by_cases e : q = k
   . subst e; rw [Maps.has_put_same h.map (show WideAt.IsKeyLit (.string q) from trivial)]; simp [List.lookup]
   . rw [Maps.has_put_other (by intro e2; injection e2 with e2; exact e e2), h.has]
     have : (q == k) = false := by simpa using e
     simp [List.lookup, this]
 . by_cases e : q = k
   . subst e; rw [Maps.atKey_put_same h.map (show WideAt.IsKeyLit (.string q) from trivial)]; simp [List.lookup]
   . rw [Maps.atKey_put_other (by intro e2; injection e2 with e2; exact e e2), h.get]
     have : (q == k) = false := by simpa using e
     simp [List.lookup, this]
theorem keyS : Maps.Keyed Tryz.prog 9 := Maps.string_keyed Tryz.underlying9
theorem zero4 (w : World) : (zeroValue 4).run Tryz.prog w = .ok (.bool false) w := by kernel_rfl
theorem plain4 {v : Value} {d : DataW Unit} {ps : List MemPlace} (h : plainElem Tryz.prog 4 v = some (d, ps)) : ∃ x, v = .bool x /\ d = .lit (.bool x) := by
 have hu := Tryz.underlying4
 unfold plainElem at h
 generalize Tryz.prog.underlying 4 = u at h hu
 subst hu
 cases v <;> simp at h
 exact ⟨_, rfl, h.1.symm⟩
section
variable (w : World) {ops : Array Oper} {rest : List Oper} {o : Oper} {a : Act} {Q : Exit -> Act -> World -> Prop}
abbrev OwnS (w : World) (b n : Nat) (D : DataW Unit) : Prop := w.ownsMap Tryz.prog 9 (plainElem Tryz.prog 4) b n D
theorem lookS_ok (hg : o.guard = none) (m x : Operand) (hop : o.op = Op.lookup 49 m x true) (b n : Nat) (D : DataW Unit) (S : List (List UInt8 × Bool)) (hm : a.eval m = .map (some b)) (hown : OwnS w b n D) (hS : MapS D S) (s : ByteArray) (hx : a.eval x = .string s) (hs : s.size <= maxLen)
 (hK : wpList Tryz.prog ops Q rest (a.put o.dst (.tuple #[.bool ((S.lookup s.data.toList).getD false), .bool (S.lookup s.data.toList).isSome])) w) : wpList Tryz.prog ops Q (o :: rest) a w :=
 wpList_lookup_own_ok w hg m x 49 hop 9 4 keyS Tryz.underlying49 (plainElem Tryz.prog 4) (zero4 w) (.lit (.bool false)) [] (plainElem_bool Tryz.underlying4 false) b n D hm hown (.string s) (.string s.data.toList) hx (WideMaps.keyOf_string_mk Tryz.underlying9 hs) (fun v ps hv => by
  obtain ⟨y, rfl, e⟩ := plain4 hv
  rw [hS.get] at e
  injection e with e; injection e with e
  rw [hS.has, <- e]; exact hK)
theorem putS (hg : o.guard = none) (m x v : Operand) (hop : o.op = Op.mapUpdate 49 m x v) (b n : Nat) (D : DataW Unit) (S : List (List UInt8 × Bool)) (hm : a.eval m = .map (some b)) (hown : OwnS w b n D) (hS : MapS D S) (hn : n < 4000000000) (s : ByteArray) (c : Bool) (hx : a.eval x = .string s) (hv : a.eval v = .bool c) (hs : s.size <= maxLen)
 (hK : ∀ w' D', OwnS w' b (n + 1) D' -> MapS D' ((s.data.toList, c) :: S) -> w.grownBy w' (some b) -> wpList Tryz.prog ops Q rest (a.put o.dst undef) w') : wpList Tryz.prog ops Q (o :: rest) a w :=
 wpList_mapUpdate_own w hg m x v 49 hop 9 4 keyS Tryz.underlying49 (plainElem Tryz.prog 4) b n D hm hown (by unfold maxLen; omega) (.string s) (.bool c) (.string s.data.toList) hx hv (WideMaps.keyOf_string_mk Tryz.underlying9 hs) (.lit (.bool c)) [] (plainElem_bool Tryz.underlying4 c) (fun w' h1 h2 => hK w' _ h1 (hS.put _ _) h2)
theorem putS0 (hg : o.guard = none) (m x v : Operand) (hop : o.op = Op.insert 49 m x v) (b n : Nat) (D : DataW Unit) (S : List (List UInt8 × Bool)) (hm : a.eval m = .map (some b)) (hown : OwnS w b n D) (hS : MapS D S) (hn : n < 4000000000) (s : ByteArray) (c : Bool) (hx : a.eval x = .string s) (hv : a.eval v = .bool c) (hs : s.size <= maxLen)
 (hK : ∀ w' D', OwnS w' b (n + 1) D' -> MapS D' ((s.data.toList, c) :: S) -> w.grownBy w' (some b) -> wpList Tryz.prog ops Q rest (a.put o.dst undef) w') : wpList Tryz.prog ops Q (o :: rest) a w := by
 refine wpList_plain hg fun K' hK' => ?_
 obtain ⟨w', hrun, r1, r2⟩ := hown.update keyS Tryz.underlying49 (by unfold maxLen; omega) (WideMaps.keyOf_string_mk Tryz.underlying9 hs) (plainElem_bool Tryz.underlying4 c)
 unfold Oper.wp
 simp [execOp, hop, hm, hx, hv, hrun, Result.andThen]
 exact hK' _ _ (hK w' _ r1 (hS.put _ _) r2)
end
theorem atInsert {m x v : Operand} {P : Program} {ops : Array Oper} {rest : List Oper} {Q : Exit -> Act -> World -> Prop} {a : Act} {w : World} {d : Option Tmp} {ty : TypeId} {pos : String} {aft : Array Edge} {g : Option (Nat × Bool)} (h : wpList P ops Q ({ dst := d, op := .insert 49 m x v, type := ty, pos := pos, after := aft, guard := g } :: rest) a w) :
 wpList P ops Q ({ dst := d, op := .insert 49 m x v, type := ty, pos := pos, after := aft, guard := g } :: rest) a w := h
theorem atMapUpdate {m x v : Operand} {P : Program} {ops : Array Oper} {rest : List Oper} {Q : Exit -> Act -> World -> Prop} {a : Act} {w : World} {d : Option Tmp} {ty : TypeId} {pos : String} {aft : Array Edge} {g : Option (Nat × Bool)} (h : wpList P ops Q ({ dst := d, op := .mapUpdate 49 m x v, type := ty, pos := pos, after := aft, guard := g } :: rest) a w) :
 wpList P ops Q ({ dst := d, op := .mapUpdate 49 m x v, type := ty, pos := pos, after := aft, guard := g } :: rest) a w := h
theorem atLookup {m x : Operand} {c : Bool} {P : Program} {ops : Array Oper} {rest : List Oper} {Q : Exit -> Act -> World -> Prop} {a : Act} {w : World} {d : Option Tmp} {ty : TypeId} {pos : String} {aft : Array Edge} {g : Option (Nat × Bool)} (h : wpList P ops Q ({ dst := d, op := .lookup 49 m x c, type := ty, pos := pos, after := aft, guard := g } :: rest) a w) :
 wpList P ops Q ({ dst := d, op := .lookup 49 m x c, type := ty, pos := pos, after := aft, guard := g } :: rest) a w := h
def BoolR (e : Ending) (Q : Bool -> Prop) : Prop := ∃ r, e = .returned (.bool r) /\ Q r
theorem BoolR.intro {Q : Bool -> Prop} (r : Bool) (h : Q r) : BoolR (.returned (.bool r)) Q := ⟨r, rfl, h⟩
structure PlainName (s : List UInt8) : Prop where
 chr : ∀ b ∈ s, (65 <= b.toNat /\ b.toNat <= 90) \/ (48 <= b.toNat /\ b.toNat <= 57) \/ b.toNat = 95 \/ b.toNat = 46
 head : s.head? ≠ some 46
 last : s.getLast? ≠ some 46
 len : 1 <= s.length /\ s.length <= 12
theorem PlainName.plain {s : List UInt8} (h : PlainName s) : Plain s := by
 have hno : ∀ c : UInt8, c.toNat = 59 \/ c.toNat = 92 \/ c.toNat = 0 \/ c.toNat = 47 -> c ∉ s := by
  intro c hc hm
  have := h.chr c hm
  omega
 refine ⟨⟨?_, hno 47 (by decide), ?_, ?_⟩, hno 59 (by decide), hno 92 (by decide), hno 0 (by decide), h.head, h.last, h.len.2, fun b hb => ?_⟩
 . intro e; have := h.len.1; rw [e] at this; simp at this
 . intro e; have := h.head; rw [e] at this; simp at this
 . intro e; have := h.head; rw [e] at this; simp at this
 . have := h.chr b hb; omega
structure FreeName (s : List UInt8) : Prop where
 no : (47 : UInt8) ∉ s /\ (0 : UInt8) ∉ s
 dot : s ≠ [46] /\ s ≠ [46, 46]
 len : 1 <= s.length /\ s.length <= 100
def okPart (plain : Bool) (s : List UInt8) : Prop := if plain then PlainName s else FreeName s
structure TreeG (plain : Bool) (l : List File) : Prop where
 part : ∀ f ∈ l, ∀ s ∈ Lib.Pa.els f.p, okPart plain s
 ahead : Ahead l
 apart : ∀ i j (hi : i < l.length) (hj : j < l.length), l[i].p = l[j].p -> i = j
 deep : ∀ f ∈ l, (Lib.Pa.els f.p).length <= 7
 dirs : ∀ f ∈ l, f.dir = true -> f.data.size = 0 /\ f.target.size = 0
 links : ∀ f ∈ l, f.target.size ≠ 0 -> f.data.size = 0 /\ plain = false /\ f.target.size <= 200
theorem TreeG.nil (plain : Bool) : TreeG plain [] := by
 refine ⟨?_, ?_, ?_, ?_, ?_, ?_⟩
 . intro f hf; cases hf
 . intro k hk; cases hk
 . intro i j hi; cases hi
 . intro f hf; cases hf
 . intro f hf; cases hf
 . intro f hf; cases hf
def seenS (l : List File) : List (List UInt8 × Bool) := l.foldl (fun S f => (f.p, f.dir) :: S) [([], true)]
theorem seenS_snoc (l : List File) (f : File) : seenS (l ++ [f]) = (f.p, f.dir) :: seenS l := by simp [seenS, List.foldl_append]
theorem seenS_true (l : List File) (k : List UInt8) (h : (seenS l).lookup k = some true) : k = [] \/ ∃ j, ∃ hj : j < l.length, l[j].dir = true /\ l[j].p = k := by
 suffices ∀ (m : List File) (S : List (List UInt8 × Bool)), (m.foldl (fun S f => (f.p, f.dir) :: S) S).lookup k = some true -> S.lookup k = some true \/ ∃ j, ∃ hj : j < m.length, m[j].dir = true /\ m[j].p = k by
  rcases this l _ h with h1 | h1
  . left
    by_cases e : k = []
    . exact e
    . have : (k == []) = false := by simpa using e
      simp [List.lookup, this] at h1
  . exact .inr h1
 intro m
 induction m with
 | nil => intro S h; exact .inl h
 | cons f m ih =>
   intro S h
   simp only [List.foldl_cons] at h
   rcases ih _ h with h1 | ⟨j, hj, h1⟩
   . by_cases e : k = f.p
     . have : (k == f.p) = true := by simpa using e
       simp only [List.lookup, this] at h1
       exact .inr ⟨0, by simp, by simpa using h1, e.symm⟩
     . have : (k == f.p) = false := by simpa using e
       simp only [List.lookup, this] at h1
       exact .inl h1
   . exact .inr ⟨j + 1, by simpa using hj, by simpa using h1⟩
theorem seenS_none (l : List File) (k : List UInt8) (h : ((seenS l).lookup k).isSome = false) : k ≠ [] /\ ∀ f ∈ l, f.p ≠ k := by
 suffices ∀ (m : List File) (S : List (List UInt8 × Bool)), ((m.foldl (fun S f => (f.p, f.dir) :: S) S).lookup k).isSome = false -> (S.lookup k).isSome = false /\ ∀ f ∈ m, f.p ≠ k by
  obtain ⟨h1, h2⟩ := this l _ h
  refine ⟨?_, h2⟩
  intro e; subst e; simp [List.lookup] at h1
 intro m
 induction m with
 | nil => intro S h; exact ⟨h, by simp⟩
 | cons f m ih =>
   intro S h
   simp only [List.foldl_cons] at h
   obtain ⟨h1, h2⟩ := ih _ h
   by_cases e : k = f.p
   . have : (k == f.p) = true := by simpa using e
     simp [List.lookup, this] at h1
   . have : (k == f.p) = false := by simpa using e
     simp only [List.lookup, this] at h1
     refine ⟨h1, fun g hg => ?_⟩
     rcases List.mem_cons.1 hg with rfl | hg
     . exact fun e2 => e e2.symm
     . exact h2 g hg
theorem TreeG.snoc {plain : Bool} {l : List File} {f : File} (h : TreeG plain l) (h1 : ∀ s ∈ Lib.Pa.els f.p, okPart plain s) (h2 : (seenS l).lookup (cutLast f.p).1 = some true) (h3 : ((seenS l).lookup f.p).isSome = false) (h4 : (Lib.Pa.els f.p).length <= 7)
 (h5 : f.dir = true -> f.data.size = 0 /\ f.target.size = 0) (h6 : f.target.size ≠ 0 -> f.data.size = 0 /\ plain = false /\ f.target.size <= 200) : TreeG plain (l ++ [f]) := by
 have hm : ∀ g ∈ l ++ [f], g ∈ l \/ g = f := fun g hg => by simpa using hg
 refine ⟨?_, ?_, ?_, ?_, ?_, ?_⟩
 . intro g hg; rcases hm g hg with hg | rfl
   . exact h.part g hg
   . exact h1
 . intro k hk
   rw [List.length_append, List.length_singleton] at hk
   by_cases hkl : k < l.length
   . obtain ⟨a1, a2⟩ := h.ahead k hkl
     rw [List.getElem_append_left hkl]
     refine ⟨a1, a2.imp id fun ⟨j, hj, b1, b2⟩ => ⟨j, hj, ?_, ?_⟩⟩
     . rw [List.getElem_append_left (by omega)]; exact b1
     . rw [List.getElem_append_left (by omega)]; exact b2
   . have e : k = l.length := by omega
     subst e
     rw [List.getElem_append_right (Nat.le_refl _)]
     simp only [Nat.sub_self, List.getElem_singleton]
     obtain ⟨qs, s, e1, e2⟩ := els_cut f.p
     refine ⟨?_, ?_⟩
     . rw [e2]
       have := h1 s (by rw [e1]; simp)
       unfold okPart at this
       intro e0
       have e0 : s = [] := e0
       rw [e0] at this
       split at this
       . have := this.len.1; simp at this
       . have := this.len.1; simp at this
     . rcases seenS_true l _ h2 with h7 | ⟨j, hj, b1, b2⟩
       . exact .inl h7
       . refine .inr ⟨j, hj, ?_, ?_⟩
         . rw [List.getElem_append_left hj]; exact b1
         . rw [List.getElem_append_left hj]; exact b2
 . have hn := (seenS_none l f.p h3).2
   intro i j hi hj
   rw [List.length_append, List.length_singleton] at hi hj
   by_cases hil : i < l.length
   . rw [List.getElem_append_left hil]
     by_cases hjl : j < l.length
     . rw [List.getElem_append_left hjl]; exact h.apart i j hil hjl
     . intro e
       exfalso
       rw [List.getElem_append_right (by omega)] at e
       simp only [List.getElem_singleton] at e
       exact hn _ (List.getElem_mem hil) e
   . by_cases hjl : j < l.length
     . intro e
       exfalso
       rw [List.getElem_append_left hjl, List.getElem_append_right (by omega)] at e
       simp only [List.getElem_singleton] at e
       exact hn _ (List.getElem_mem hjl) e.symm
     . intro _; omega
 . intro g hg; rcases hm g hg with hg | rfl
   . exact h.deep g hg
   . exact h4
 . intro g hg; rcases hm g hg with hg | rfl
   . exact h.dirs g hg
   . exact h5
 . intro g hg; rcases hm g hg with hg | rfl
   . exact h.links g hg
   . exact h6
theorem joinP_len (ps : List (List UInt8)) (n : Nat) (h : ∀ s ∈ ps, s.length <= n) : (joinP ps).length <= ps.length * (n + 1) := by
 induction ps with
 | nil => simp [joinP_nil]
 | cons s ps ih =>
   have h1 := h s (by simp)
   have h2 := ih (fun t ht => h t (by simp [ht]))
   have e : (ps.length + 1) * (n + 1) = ps.length * (n + 1) + (n + 1) := Nat.succ_mul _ _
   by_cases hp : ps = []
   . subst hp; rw [joinP_one]; simp; omega
   . rw [joinP_cons s ps hp, List.length_append, List.length_cons, List.length_cons]; omega
theorem str_beq {a b : ByteArray} : (a.toList == b.toList) = true ↔ a = b := by
 rw [Lib.toList_data, Lib.toList_data, beq_iff_eq]
 exact ⟨ba_ext, fun h => by rw [h]⟩
theorem str_ne {a b : ByteArray} (h : a ≠ b) : (a.toList == b.toList) = false := by
 cases hh : (a.toList == b.toList) with
 | false => rfl
 | true => exact absurd (str_beq.1 hh) h
def Mida (s : ByteArray) (done : List (List UInt8)) (a t : Nat) : Prop :=
 if t <= s.size then Lib.Pa.els s.data.toList = done ++ Lib.Pa.els (s.data.toList.drop a) /\ a <= t /\ ∀ j, a <= j -> j < t -> s.data.toList[j]? ≠ some 47
 else Lib.Pa.els s.data.toList = done
theorem drop_part (l : List UInt8) (a t : Nat) (h1 : a <= t) (h2 : t <= l.length) (h : ∀ j, a <= j -> j < t -> l[j]? ≠ some 47) : (47 : UInt8) ∉ (l.drop a).take (t - a) := by
 intro hm
 obtain ⟨j, hj⟩ := List.mem_iff_getElem?.1 hm
 rw [List.getElem?_take] at hj
 split at hj
 . rw [List.getElem?_drop] at hj
   exact h (a + j) (by omega) (by omega) hj
 . cases hj
theorem Mida.cut {s : ByteArray} {done : List (List UInt8)} {a t : Nat} (h : Mida s done a t) (ht : t < s.size) (hc : s.data.toList[t]? = some 47) : Mida s (done ++ [(s.data.toList.drop a).take (t - a)]) (t + 1) (t + 1) := by
 have hsz : s.data.toList.length = s.size := by rw [Array.length_toList]; rfl
 unfold Mida at *
 rw [if_pos (by omega)] at h
 obtain ⟨h1, h2, h3⟩ := h
 rw [if_pos (by omega)]
 refine ⟨?_, Nat.le_refl _, fun j a b => by omega⟩
 have e : s.data.toList.drop a = (s.data.toList.drop a).take (t - a) ++ 47 :: s.data.toList.drop (t + 1) := by
  have e1 := (List.take_append_drop (t - a) (s.data.toList.drop a)).symm
  have e2 : (s.data.toList.drop a).drop (t - a) = 47 :: s.data.toList.drop (t + 1) := by
   rw [List.drop_drop, show a + (t - a) = t by omega, List.drop_eq_getElem_cons (by omega)]
   congr 1
   rw [List.getElem?_eq_getElem (by omega)] at hc
   simpa using hc
  rw [e2] at e1
  exact e1
 rw [h1, e, els_app _ _ (drop_part _ a t h2 (by omega) h3), <- e]
 simp
theorem Mida.end {s : ByteArray} {done : List (List UInt8)} {a : Nat} (h : Mida s done a s.size) : Mida s (done ++ [(s.data.toList.drop a).take (s.size - a)]) (s.size + 1) (s.size + 1) := by
 have hsz : s.data.toList.length = s.size := by rw [Array.length_toList]; rfl
 unfold Mida at *
 rw [if_pos (Nat.le_refl _)] at h
 obtain ⟨h1, h2, h3⟩ := h
 rw [if_neg (by omega), h1]
 have hd := drop_part _ a s.size h2 (by omega) h3
 rw [List.take_of_length_le (by rw [List.length_drop]; omega)] at hd ⊢
 rw [els_one _ hd]
theorem Mida.skip {s : ByteArray} {done : List (List UInt8)} {a t : Nat} (h : Mida s done a t) (ht : t < s.size) (hc : s.data.toList[t]? ≠ some 47) : Mida s done a (t + 1) := by
 unfold Mida at *
 rw [if_pos (by omega)] at h ⊢
 obtain ⟨h1, h2, h3⟩ := h
 refine ⟨h1, by omega, fun j b c => ?_⟩
 by_cases e : j = t
 . subst e; exact hc
 . exact h3 j b (by omega)
theorem Mida.le {s : ByteArray} {done : List (List UInt8)} {a t : Nat} (h : Mida s done a t) : done.length <= s.size + 1 := by
 have hsz : s.data.toList.length = s.size := by rw [Array.length_toList]; rfl
 have hl := els_length s.data.toList
 rw [hsz] at hl
 unfold Mida at h
 split at h
 . rw [h.1, List.length_append] at hl; omega
 . rw [h] at hl; exact hl
theorem extract_part (s : ByteArray) (a t : Nat) (h : t <= s.size) : s.extract a t = ofL ((s.data.toList.drop a).take (t - a)) := by
 apply ba_ext
 simp only [Lib.extract_data]
theorem parts_any (s : ByteArray) (w : World) (h1 : s.size <= 2147483647) :
 Calls Tryz.prog 22 #[.string s] w fun e w' => ∃ A co, e = .returned (.slice A (Lib.Pa.els s.data.toList).length co) /\ w'.ownsRow w.heap.size 9 1 (.slice A (Lib.Pa.els s.data.toList).length co) (Lib.Pa.els s.data.toList).length ((Lib.Pa.els s.data.toList).map SV) /\ Below w.heap.size w w' := by
 have hsz : s.data.toList.length = s.size := by rw [Array.length_toList]; rfl
 have HS := Lib.hid hsz
 clear hsz
 go_enter Tryz.func22, Tryz.ntmps22
 go_wp2_with (fail)
 go_loopw [3, 4, 5] (fun ov av iv wr => ∃ (t a n : Nat) (done : List (List UInt8)) (A : Option Addr) (co : Nat), t <= s.size + 1 /\ a <= t /\ iv = .int .i64 t /\ av = .int .i64 a /\ ov = .slice A n co /\ Hid (done.length = n) /\ n <= s.size + 1 /\ Hid (Mida s done a t) /\ Hid (wr.ownsRow w.heap.size 9 1 (.slice A n co) n (done.map SV)) /\ Below w.heap.size w wr) (fun _ _ iv _ => s.size + 1 - (intOf iv).toNat)
 case atStart =>
  refine ⟨0, 0, 0, [], none, 0, Nat.zero_le _, Nat.le_refl _, rfl, rfl, rfl, rfl, Nat.zero_le _, ?_, World.ownsRow_nil _ _ _ _, Below.refl _ _⟩
  unfold Hid Mida; rw [if_pos (Nat.zero_le _)]; exact ⟨rfl, Nat.le_refl _, fun j a b => by omega⟩
 case round =>
  obtain ⟨t, a, n, done, A, co, ht, hat, rfl, rfl, rfl, hn, hnE, hM, hO, hb⟩ := hrel
  have hsize := hb.size
  by_cases hlt : t <= s.size
  . by_cases hend : t = s.size
    . subst hend
      have hex := extract_part s a s.size (Nat.le_refl _)
      have HX := Lib.hid hex
      obtain ⟨sg, hsg⟩ : ∃ sg, s.extract a s.size = sg := ⟨_, rfl⟩
      have HSG := Lib.hid hsg
      have hlen : n = (done.map SV).length := by rw [List.length_map]; exact hn.out.symm
      have HLE := Lib.hid hlen
      clear hex hsg hlen
      go_wp2_with (at_builtin; refine asList rfl fun KK hKK => ?_; refine go_appV (w := wr) under43 info9 (by decide) (.tmp 22) (.tmp 27) rfl w.heap.size wr.heap.size n A co (done.map SV) (.string (s.extract a s.size)) HLE.out rfl hO.out ((Below.refl _ _).alloc (Nat.le_refl _) _) (by show (wr.heap.push _)[wr.heap.size]? = _; rw [Array.getElem?_push_size]) rfl rfl rfl (by omega) hsize ?_; intro A3 c3 w3 hO3 hb3 hg3; refine hKK _ _ ?_; clear hKK KK)
      go_roundw
      case rel =>
       have hM2 := Mida.end hM.out
       refine ⟨s.size + 1, s.size + 1, n + 1, done ++ [(s.data.toList.drop a).take (s.size - a)], A3, c3, Nat.le_refl _, Nat.le_refl _, by simp, by simp, rfl, ?_, ?_, hM2, ?_, hb.trans hb3⟩
       . unfold Hid; rw [List.length_append, hn.out]; rfl
       . have := hM2.le; rw [List.length_append, hn.out] at this; simpa using this
       . unfold Hid; rw [List.map_append, List.map_singleton]; rw [HX.out] at hO3; exact hO3
      case measure => simp [intOf]
    . have hts : t < s.size := by omega
      by_cases hc : s.data.toList[t]? = some 47
      . have hcb : ((s[t].toNat : Int) == 47) = true := by
         rw [List.getElem?_eq_getElem (by rw [HS.out]; omega)] at hc
         have : s[t] = 47 := Option.some.inj hc
         rw [this]; rfl
        have hex := extract_part s a t (by omega)
        have HX := Lib.hid hex; have HC := Lib.hid hc
        have hlen : n = (done.map SV).length := by rw [List.length_map]; exact hn.out.symm
        have HLE := Lib.hid hlen
        clear hex hlen hc
        go_wp2_with (at_builtin; refine asList rfl fun KK hKK => ?_; refine go_appV (w := wr) under43 info9 (by decide) (.tmp 22) (.tmp 27) rfl w.heap.size wr.heap.size n A co (done.map SV) (.string (s.extract a t)) HLE.out rfl hO.out ((Below.refl _ _).alloc (Nat.le_refl _) _) (by show (wr.heap.push _)[wr.heap.size]? = _; rw [Array.getElem?_push_size]) rfl rfl rfl (by omega) hsize ?_; intro A3 c3 w3 hO3 hb3 hg3; refine hKK _ _ ?_; clear hKK KK)
        go_roundw
        case rel =>
         have hM2 := Mida.cut hM.out hts HC.out
         refine ⟨t + 1, t + 1, n + 1, done ++ [(s.data.toList.drop a).take (t - a)], A3, c3, by omega, Nat.le_refl _, by simp, by simp, rfl, ?_, ?_, hM2, ?_, hb.trans hb3⟩
         . unfold Hid; rw [List.length_append, hn.out]; rfl
         . have := hM2.le; rw [List.length_append, hn.out] at this; simpa using this
         . unfold Hid; rw [List.map_append, List.map_singleton]; rw [HX.out] at hO3; exact hO3
        case measure => simp [intOf]; omega
      . have hcb : ((s[t].toNat : Int) == 47) = false := by
         rw [List.getElem?_eq_getElem (by rw [HS.out]; omega)] at hc
         have h2 : s[t] ≠ 47 := by intro e; apply hc; congr 1
         simp only [beq_eq_false_iff_ne]
         intro e; apply h2; apply UInt8.toNat_inj.1; show s[t].toNat = 47; omega
        have HC := Lib.hid hc
        clear hc
        go_wp2_with (fail)
        go_roundw
        case rel =>
         exact ⟨t + 1, a, n, done, A, co, by omega, by omega, by simp, rfl, rfl, hn, hnE, Mida.skip hM.out hts HC.out, hO, hb⟩
        case measure => simp [intOf]; omega
  . have hte : t = s.size + 1 := by omega
    subst hte
    go_wp2_with (fail)
    go_ret
    have hM := hM.out
    unfold Mida at hM
    rw [if_neg (by omega)] at hM
    rw [hM, hn.out]
    exact ⟨A, co, rfl, hO.out, hb⟩
theorem zzFits4_any (f : File) (w : World) : Calls Tryz.prog 21 #[.agg f.cells.toArray] w fun e w' => BoolR e (fun r => r = true -> f.path.size <= 2147483647 /\ f.data.size <= 2147483647 /\ f.target.size <= 2147483647) /\ Below w.heap.size w w' := by
 go_enter Tryz.func21, Tryz.ntmps21
 go_wp2_with (fail)
 all_goals
  go_ret
  refine ⟨BoolR.intro _ (fun hr => ?_), (Below.refl _ _).alloc (Nat.le_refl _) _⟩
  first | (cases hr; done) | (refine ⟨?_, ?_, ?_⟩ <;> omega)
structure FitF (f : File) : Prop where
 path : f.path.size <= 2147483647
 data : f.data.size <= 2147483647
 target : f.target.size <= 2147483647
theorem zzFits3_any (cap : Nat) (A : Option Addr) (fs : List File) (w : World) (hA : FilesR w w.heap.size A fs) (hl : fs.length <= 4611686018427387904) (hcap : fs.length <= cap) :
 Calls Tryz.prog 6 #[.slice A fs.length cap] w fun e w' => BoolR e (fun r => (r = true -> fs.length <= 2147483647 /\ ∀ f ∈ fs, FitF f)) /\ Below w.heap.size w w' := by
 have HA := Lib.hid hA
 clear hA
 by_cases hbig : fs.length <= 2147483647
 . have hbb : decide ((2147483647 : Int) < (fs.length : Int)) = false := by simp; omega
   go_enter Tryz.func6, Tryz.ntmps6
   go_wp2_with (fail)
   go_loopw [10] (fun iv wr => ∃ t : Nat, t <= fs.length /\ iv = .int .i64 t /\ Hid (∀ f ∈ fs.take t, FitF f) /\ Below w.heap.size w wr) (fun iv _ => fs.length - (intOf iv).toNat)
   case atStart => exact ⟨0, Nat.zero_le _, rfl, by simp [Hid], Below.refl _ _⟩
   case round =>
    obtain ⟨t, ht, rfl, hno, hb⟩ := hrel
    by_cases hlt : t < fs.length
    . obtain ⟨x, hx⟩ : ∃ x, fs[t] = x := ⟨_, rfl⟩
      obtain ⟨b, o, rfl, hob, hcells⟩ := HA.out.keep hb (Nat.le_refl _) t hlt
      rw [hx] at hcells
      have htk : fs.take (t + 1) = fs.take t ++ [x] := by rw [<- List.take_append_getElem hlt, hx]
      have HTK := Lib.hid htk
      clear htk hx
      go_wp2_with (first
       | (go_at_call 21; go_must (refine (zzFits4_any x _).mono ?_); rintro e w4 ⟨⟨r, rfl, hr⟩, hb4⟩; have HR := Lib.hid hr; clear hr)
       | (refine atLoad 37 ?_; refine wpList_loadFile rfl (.tmp 4) rfl rfl (rangeAt_alloc wr x.cells 37) ?_)
       | (refine atLoad 37 ?_; go_must (refine wpList_loadFile rfl (.tmp 12) rfl rfl hcells ?_))
       | (refine atStore 37 ?_; go_must (refine wpList_storeNew rfl 37 _ _ rfl _ _ _ _ rfl rfl (by exact info37) (by rfl) (by rfl) ?_)))
      all_goals have hbx : Below w.heap.size w w4 := (hb.alloc hb.size _).trans (hb4.mono (by have := hb.size; simp; omega))
      all_goals first
       | (go_ret
          exact ⟨BoolR.intro false (fun h => by cases h), hbx⟩)
       | (go_roundw
          case rel =>
           refine ⟨t + 1, hlt, by simp, ?_, hbx⟩
           unfold Hid; rw [HTK.out]
           intro y hy
           rcases List.mem_append.1 hy with h | h
           . exact hno.out y h
           . rw [List.mem_singleton] at h; subst h
             have := HR.out (by simp_all)
             exact ⟨this.1, this.2.1, this.2.2⟩
          case measure => simp [intOf]; omega)
    . have hte : t = fs.length := by omega
      subst hte
      go_wp2_with (fail)
      go_ret
      have hno := hno.out
      rw [List.take_length] at hno
      exact ⟨BoolR.intro true (fun _ => ⟨hbig, hno⟩), hb⟩
 . have hbb : decide ((2147483647 : Int) < (fs.length : Int)) = true := by simp; omega
   go_enter Tryz.func6, Tryz.ntmps6
   go_wp2_with (fail)
   go_ret
   exact ⟨BoolR.intro false (fun h => by cases h), Below.refl _ _⟩
def sumD (l : List File) : Nat := (l.map (·.data.size)).sum
theorem sumD_snoc (l : List File) (f : File) : sumD (l ++ [f]) = sumD l + f.data.size := by simp [sumD]
theorem sumD_mem (l : List File) (f : File) (h : f ∈ l) : f.data.size <= sumD l := by
 induction l with
 | nil => cases h
 | cons g l ih =>
   have e : sumD (g :: l) = g.data.size + sumD l := by simp [sumD]
   rw [e]
   rcases List.mem_cons.1 h with rfl | h
   . omega
   . have := ih h; omega
theorem ByteArray_empty {s : ByteArray} : s.size = 0 ↔ s = ⟨#[]⟩ := by
 constructor
 . intro h
   apply ba_ext
   have : s.data.toList.length = 0 := by rw [Array.length_toList]; exact h
   simpa using List.length_eq_zero_iff.1 this
 . rintro rfl; rfl
def dirTo (E : List (List UInt8)) (i : Nat) : List UInt8 := joinP (E.take (min i (E.length - 1)))
theorem dirTo_zero (E : List (List UInt8)) : dirTo E 0 = [] := by simp [dirTo, joinP_nil]
theorem dirTo_first (E : List (List UInt8)) (s : List UInt8) (h : E[0]? = some s) (h1 : 0 < E.length - 1) : dirTo E 1 = s := by
 unfold dirTo
 rw [Nat.min_eq_left (by omega)]
 cases E with
 | nil => cases h
 | cons a E => simp at h; subst h; simp [joinP_one]
theorem dirTo_next (E : List (List UInt8)) (i : Nat) (s : List UInt8) (h : E[i]? = some s) (h0 : 0 < i) (h1 : i < E.length - 1) : dirTo E (i + 1) = dirTo E i ++ 47 :: s := by
 unfold dirTo
 rw [Nat.min_eq_left (by omega), Nat.min_eq_left (by omega)]
 have hi : i < E.length := by omega
 have e : E.take (i + 1) = E.take i ++ [s] := by
  rw [<- List.take_append_getElem hi]; congr 2
  rw [List.getElem?_eq_getElem hi] at h; simpa using h
 rw [e, joinP_snoc]
 intro e0
 have := congrArg List.length e0
 rw [List.length_take, List.length_nil] at this
 omega
theorem dirTo_last (E : List (List UInt8)) (i : Nat) (h1 : E.length - 1 <= i) : dirTo E i = joinP E.dropLast := by
 unfold dirTo
 rw [Nat.min_eq_right h1, List.dropLast_eq_take]
theorem dirTo_len (E : List (List UInt8)) (l : List UInt8) (h : joinP E = l) (i : Nat) : (dirTo E i).length <= l.length := by
 subst h
 unfold dirTo
 generalize min i (E.length - 1) = k
 have e := List.take_append_drop k E
 by_cases h1 : E.take k = []
 . rw [h1, joinP_nil]; simp
 . by_cases h2 : E.drop k = []
   . rw [h2, List.append_nil] at e; rw [e]; exact Nat.le_refl _
   . have : joinP E = joinP (E.take k) ++ 47 :: joinP (E.drop k) := by
      conv => lhs; rw [<- e]
      generalize E.take k = ps at h1
      generalize E.drop k = qs at h2
      induction ps with
      | nil => exact absurd rfl h1
      | cons a ps ih =>
        by_cases hp : ps = []
        . subst hp; rw [joinP_one]; exact joinP_cons a qs h2
        . rw [List.cons_append, joinP_cons a (ps ++ qs) (by simp [hp]), ih hp, joinP_cons a ps hp]; simp
     rw [this, List.length_append]; omega
theorem cut_dir (l : List UInt8) : (cutLast l).1 = joinP (Lib.Pa.els l).dropLast := by
 obtain ⟨qs, s, h1, h2⟩ := els_cut l
 rw [h2, h1]; simp
abbrev File.last (f : File) : List UInt8 := (cutLast f.p).2
theorem OwnS.later {w w' : World} {b n : Nat} {D : DataW Unit} (h : OwnS w b n D) (hb : Below w.heap.size w w') : OwnS w' b n D := by
 have hlt := World.ownsMap.lt h
 obtain ⟨es, clock, h1, h2⟩ := h
 exact ⟨es, clock, (hb.block b hlt).trans h1, h2⟩
theorem joinP_mem_len (ps : List (List UInt8)) (s : List UInt8) (h : s ∈ ps) : s.length <= (joinP ps).length := by
 induction ps with
 | nil => cases h
 | cons a ps ih =>
   by_cases hp : ps = []
   . subst hp; rw [joinP_one]; simp at h; subst h; exact Nat.le_refl _
   . rw [joinP_cons a ps hp, List.length_append, List.length_cons]
     rcases List.mem_cons.1 h with rfl | h
     . omega
     . have := ih h; omega
theorem seenS_dir {l : List File} {d : List UInt8} (h1 : ((seenS l).lookup d).getD false = true) : (seenS l).lookup d = some true := by
 cases h : (seenS l).lookup d with
 | none => rw [h] at h1; cases h1
 | some b => rw [h] at h1; simp at h1; rw [h1]
theorem wrap_fit (x : Int) (h1 : 0 <= x) (h2 : x < 9223372036854775808) : wrap64 x = x := by
 unfold wrap64; omega
theorem size_nil {s : ByteArray} (h : s.toList = []) : s.size = 0 := by
 rw [Lib.toList_data] at h
 have : s.data.toList.length = 0 := by rw [h]; rfl
 rw [Array.length_toList] at this
 exact this
theorem FilesR.up {w : World} {B B' : Nat} {A : Option Addr} {fs : List File} (h : FilesR w B A fs) (hB : B <= B') : FilesR w B' A fs := by
 intro i hi
 obtain ⟨b, o, e, hlt, hr⟩ := h i hi
 exact ⟨b, o, e, Nat.lt_of_lt_of_le hlt hB, hr⟩
structure LinkPart (s : List UInt8) : Prop where
 pos : s ≠ []
 len : s.length <= 100
 zero : (0 : UInt8) ∉ s
def LinkG (l : List UInt8) : Prop := l = [] \/ ∃ r : List UInt8, (l = 47 :: r \/ l = r /\ l.head? ≠ some 47) /\ ∀ s ∈ Lib.Pa.els r, LinkPart s
def NoZ (l : List UInt8) (t : Nat) : Prop := (0 : UInt8) ∉ l.take t
theorem NoZ.start (l : List UInt8) : NoZ l 0 := by unfold NoZ; simp
theorem NoZ.more {l : List UInt8} {t : Nat} (h : NoZ l t) (c : UInt8) (hc : l[t]? = some c) (h2 : c ≠ 0) : NoZ l (t + 1) := by
 unfold NoZ at h ⊢
 rw [List.take_add_one, hc]
 intro hb
 rcases List.mem_append.1 hb with h' | h'
 . exact h h'
 . simp at h'; exact h2 h'.symm
theorem linkGood_any (s : ByteArray) (w : World) (h1 : s.size <= 2147483647) :
 Calls Tryz.prog 26 #[.string s] w fun e w' => BoolR e (fun r => r = true -> LinkG s.data.toList) /\ Below w.heap.size w w' := by
 have HP := Lib.hid (fun (u : ByteArray) (W : World) (h : u.size <= 2147483647) => parts_any u W h)
 have hsz : s.data.toList.length = s.size := by rw [Array.length_toList]; rfl
 have HS := Lib.hid hsz
 clear hsz
 by_cases he : s.toList.isEmpty = true
 . go_enter Tryz.func26, Tryz.ntmps26
   go_wp2_with (fail)
   go_ret
   refine ⟨BoolR.intro true (fun _ => .inl ?_), Below.refl _ _⟩
   rw [Lib.toList_data] at he
   exact List.isEmpty_iff.1 he
 . have heb : s.toList.isEmpty = false := by simpa using he
   have hpos : 0 < s.size := by
    rw [Lib.toList_data] at heb
    rcases Nat.eq_zero_or_pos s.size with h | h
    . have : s.data.toList = [] := List.eq_nil_of_length_eq_zero (by rw [HS.out]; exact h)
      rw [this] at heb; cases heb
    . exact h
   have hhd : s.data.toList.head? = some s[0] := by
    rw [List.head?_eq_getElem?, List.getElem?_eq_getElem (by rw [HS.out]; omega)]; rfl
   have HHD := Lib.hid hhd
   clear he hhd
   go_enter Tryz.func26, Tryz.ntmps26
   go_upto_region 5 with (fail)
   . have h47 := ‹((s[0].toNat : Int) == 47) = true›
     obtain ⟨u, hu⟩ : ∃ u, s.extract 1 s.size = u := ⟨_, rfl⟩
     have hU2 : u.size <= 2147483647 := by rw [<- hu]; simp; omega
     have HLK : Hid ((∀ q ∈ Lib.Pa.els u.data.toList, LinkPart q) -> LinkG s.data.toList) := by
      intro h
      refine .inr ⟨u.data.toList, .inl ?_, h⟩
      have e0 : s[0] = 47 := UInt8.toNat_inj.1 (by have := eq_of_beq h47; show s[0].toNat = 47; omega)
      rw [<- hu, Lib.extract_to_end]
      have := HHD.out
      rw [e0] at this
      cases hl : s.data.toList with
      | nil => rw [hl] at this; cases this
      | cons x xs => rw [hl] at this; cases this; rfl
     rw [hu]
     clear hu
     clear h47
     have HPu := Lib.hid (fun W => HP.out u W hU2)
     have hE1 : 0 < (Lib.Pa.els u.data.toList).length := List.length_pos_iff.2 (els_ne _)
     have hE2 : (Lib.Pa.els u.data.toList).length <= 2147483648 := by have := els_length u.data.toList; rw [Array.length_toList] at this; exact Nat.le_trans this (Nat.succ_le_succ hU2)
     have hEs : ∀ q ∈ Lib.Pa.els u.data.toList, q.length <= 2147483647 := fun q hq => by
      have h1 := joinP_mem_len _ q hq
      rw [joinP_els, Array.length_toList] at h1
      exact Nat.le_trans h1 hU2
     have HES := Lib.hid hEs
     clear hEs
     obtain ⟨E, hE⟩ : ∃ E, Lib.Pa.els u.data.toList = E := ⟨_, rfl⟩
     rw [hE] at HPu HES hE1 hE2 HLK
     clear hE
     go_wp2_with (first | (go_at_call 22; go_must (refine (HPu.out w).mono ?_); rintro e w4 ⟨A4, co4, rfl, hO4, hb4⟩))
     obtain ⟨g4, rfl, hg4a, hg4, hc4⟩ := row_addr hO4 hE1
     have HC4 := Lib.hid hc4; have HB4 := Lib.hid hb4
     clear hO4 hb4 hc4
     go_loopw [2, 16] (fun rv iv wr => ∃ t : Nat, t <= E.length /\ iv = .int .i64 t /\ rv = .bool false /\ Hid (∀ q ∈ E.take t, LinkPart q) /\ wr = w4) (fun _ iv _ => E.length - (intOf iv).toNat)
     case atStart => exact ⟨0, Nat.zero_le _, rfl, rfl, by simp [Hid], rfl⟩
     case round =>
      obtain ⟨i, hi, rfl, rfl, hno, hwq⟩ := hrel
      have hwq' := hwq.symm
      subst hwq'
      clear hwq
      by_cases hil : i < E.length
      . obtain ⟨q, hq⟩ : ∃ q, E[i]? = some q := ⟨_, List.getElem?_eq_getElem hil⟩
        obtain ⟨st, hst⟩ : ∃ st, ofL q = st := ⟨_, rfl⟩
        have hcs := HC4.out i (SV q) (by rw [List.getElem?_map, hq]; rfl)
        unfold SV at hcs
        rw [hst] at hcs
        have hstl : st.data.toList = q := by rw [<- hst]
        have hssz : st.size <= 2147483647 := by rw [<- hst, size_ofL]; exact HES.out q (List.mem_of_getElem? hq)
        have htki : E.take (i + 1) = E.take i ++ [q] := by
         rw [<- List.take_append_getElem hil]; congr 2
         rw [List.getElem?_eq_getElem hil] at hq; simpa using hq
        have HTI := Lib.hid htki; have HSL := Lib.hid hstl
        clear htki hq hst hstl
        obtain ⟨wo, hwo⟩ : ∃ wo, wo = w4 := ⟨_, rfl⟩
        go_wp2_with (fail)
        . go_ret
          exact ⟨BoolR.intro false (fun h => by cases h), HB4.out⟩
        . go_ret
          exact ⟨BoolR.intro false (fun h => by cases h), HB4.out⟩
        . rename_i hA hB
          have hsl : st.size <= 100 := by omega
          have hne : Hid (st.data.toList ≠ []) := by
           rw [Lib.toList_data] at hA
           exact hA
          have hsz2 : st.data.toList.length = st.size := by rw [Array.length_toList]; rfl
          have HS2 := Lib.hid hsz2
          clear hA hB hsz2
          go_loopw [2, 29] (fun rv jv wr' => ∃ j : Nat, j <= st.size /\ jv = .int .i64 j /\ rv = .bool false /\ Hid (NoZ st.data.toList j) /\ wr' = w4) (fun _ jv _ => st.size - (intOf jv).toNat)
          case atStart => exact ⟨0, Nat.zero_le _, rfl, rfl, NoZ.start _, rfl⟩
          case round =>
           obtain ⟨j, hj, rfl, rfl, hZ, hwz⟩ := hrel
           have hwz' := hwz.symm
           subst hwz'
           clear hwz
           by_cases hjl : j < st.size
           . have hgt : st.data.toList[j]? = some st[j] := by
              rw [List.getElem?_eq_getElem (by rw [HS2.out]; omega)]
              rfl
             have HG := Lib.hid hgt
             clear hgt
             go_wp2_with (fail)
             all_goals first
              | (go_ret
                 exact ⟨BoolR.intro false (fun h => by cases h), HB4.out⟩)
              | (go_roundw
                 case rel =>
                  have hz := ‹((st[j].toNat : Int) == 0) = false›
                  exact ⟨j + 1, hjl, by simp, rfl, NoZ.more hZ.out _ HG.out (fun e => by rw [e] at hz; exact absurd hz (by decide)), by first | rfl | trivial⟩
                 case measure => simp [intOf]; omega)
           . have hje : j = st.size := by omega
             subst hje
             go_wp2_with (fail)
             go_roundw
             case rel =>
              refine ⟨i + 1, hil, by simp, rfl, ?_, by first | rfl | trivial⟩
              unfold Hid; rw [HTI.out]
              intro y hy
              rcases List.mem_append.1 hy with h | h
              . exact hno.out y h
              . rw [List.mem_singleton] at h
                subst h
                have hzz := hZ.out
                unfold NoZ at hzz
                rw [List.take_of_length_le (by rw [HS2.out]; exact Nat.le_refl _), HSL.out] at hzz
                refine ⟨by rw [<- HSL.out]; exact hne.out, by rw [<- HSL.out, HS2.out]; exact hsl, hzz⟩
             case measure => simp [intOf]; omega
      . have hte : i = E.length := by omega
        subst hte
        go_wp2_with (fail)
        go_ret
        refine ⟨BoolR.intro true (fun _ => HLK.out ?_), HB4.out⟩
        have h := hno.out
        rw [List.take_length] at h
        exact h
   . have h47 := ‹((s[0].toNat : Int) == 47) = false›
     have hU2 := h1
     have HLK : Hid ((∀ q ∈ Lib.Pa.els s.data.toList, LinkPart q) -> LinkG s.data.toList) := by
      intro h
      refine .inr ⟨s.data.toList, .inr ⟨rfl, ?_⟩, h⟩
      rw [HHD.out]
      intro e
      rw [Option.some.inj e] at h47
      exact absurd h47 (by decide)
     clear h47
     have HPu := Lib.hid (fun W => HP.out s W hU2)
     have hE1 : 0 < (Lib.Pa.els s.data.toList).length := List.length_pos_iff.2 (els_ne _)
     have hE2 : (Lib.Pa.els s.data.toList).length <= 2147483648 := by have := els_length s.data.toList; rw [Array.length_toList] at this; exact Nat.le_trans this (Nat.succ_le_succ hU2)
     have hEs : ∀ q ∈ Lib.Pa.els s.data.toList, q.length <= 2147483647 := fun q hq => by
      have h1 := joinP_mem_len _ q hq
      rw [joinP_els, Array.length_toList] at h1
      exact Nat.le_trans h1 hU2
     have HES := Lib.hid hEs
     clear hEs
     obtain ⟨E, hE⟩ : ∃ E, Lib.Pa.els s.data.toList = E := ⟨_, rfl⟩
     rw [hE] at HPu HES hE1 hE2 HLK
     clear hE
     go_wp2_with (first | (go_at_call 22; go_must (refine (HPu.out w).mono ?_); rintro e w4 ⟨A4, co4, rfl, hO4, hb4⟩))
     obtain ⟨g4, rfl, hg4a, hg4, hc4⟩ := row_addr hO4 hE1
     have HC4 := Lib.hid hc4; have HB4 := Lib.hid hb4
     clear hO4 hb4 hc4
     go_loopw [2, 16] (fun rv iv wr => ∃ t : Nat, t <= E.length /\ iv = .int .i64 t /\ rv = .bool false /\ Hid (∀ q ∈ E.take t, LinkPart q) /\ wr = w4) (fun _ iv _ => E.length - (intOf iv).toNat)
     case atStart => exact ⟨0, Nat.zero_le _, rfl, rfl, by simp [Hid], rfl⟩
     case round =>
      obtain ⟨i, hi, rfl, rfl, hno, hwq⟩ := hrel
      have hwq' := hwq.symm
      subst hwq'
      clear hwq
      by_cases hil : i < E.length
      . obtain ⟨q, hq⟩ : ∃ q, E[i]? = some q := ⟨_, List.getElem?_eq_getElem hil⟩
        obtain ⟨st, hst⟩ : ∃ st, ofL q = st := ⟨_, rfl⟩
        have hcs := HC4.out i (SV q) (by rw [List.getElem?_map, hq]; rfl)
        unfold SV at hcs
        rw [hst] at hcs
        have hstl : st.data.toList = q := by rw [<- hst]
        have hssz : st.size <= 2147483647 := by rw [<- hst, size_ofL]; exact HES.out q (List.mem_of_getElem? hq)
        have htki : E.take (i + 1) = E.take i ++ [q] := by
         rw [<- List.take_append_getElem hil]; congr 2
         rw [List.getElem?_eq_getElem hil] at hq; simpa using hq
        have HTI := Lib.hid htki; have HSL := Lib.hid hstl
        clear htki hq hst hstl
        obtain ⟨wo, hwo⟩ : ∃ wo, wo = w4 := ⟨_, rfl⟩
        go_wp2_with (fail)
        . go_ret
          exact ⟨BoolR.intro false (fun h => by cases h), HB4.out⟩
        . go_ret
          exact ⟨BoolR.intro false (fun h => by cases h), HB4.out⟩
        . rename_i hA hB
          have hsl : st.size <= 100 := by omega
          have hne : Hid (st.data.toList ≠ []) := by
           rw [Lib.toList_data] at hA
           exact hA
          have hsz2 : st.data.toList.length = st.size := by rw [Array.length_toList]; rfl
          have HS2 := Lib.hid hsz2
          clear hA hB hsz2
          go_loopw [2, 29] (fun rv jv wr' => ∃ j : Nat, j <= st.size /\ jv = .int .i64 j /\ rv = .bool false /\ Hid (NoZ st.data.toList j) /\ wr' = w4) (fun _ jv _ => st.size - (intOf jv).toNat)
          case atStart => exact ⟨0, Nat.zero_le _, rfl, rfl, NoZ.start _, rfl⟩
          case round =>
           obtain ⟨j, hj, rfl, rfl, hZ, hwz⟩ := hrel
           have hwz' := hwz.symm
           subst hwz'
           clear hwz
           by_cases hjl : j < st.size
           . have hgt : st.data.toList[j]? = some st[j] := by
              rw [List.getElem?_eq_getElem (by rw [HS2.out]; omega)]
              rfl
             have HG := Lib.hid hgt
             clear hgt
             go_wp2_with (fail)
             all_goals first
              | (go_ret
                 exact ⟨BoolR.intro false (fun h => by cases h), HB4.out⟩)
              | (go_roundw
                 case rel =>
                  have hz := ‹((st[j].toNat : Int) == 0) = false›
                  exact ⟨j + 1, hjl, by simp, rfl, NoZ.more hZ.out _ HG.out (fun e => by rw [e] at hz; exact absurd hz (by decide)), by first | rfl | trivial⟩
                 case measure => simp [intOf]; omega)
           . have hje : j = st.size := by omega
             subst hje
             go_wp2_with (fail)
             go_roundw
             case rel =>
              refine ⟨i + 1, hil, by simp, rfl, ?_, by first | rfl | trivial⟩
              unfold Hid; rw [HTI.out]
              intro y hy
              rcases List.mem_append.1 hy with h | h
              . exact hno.out y h
              . rw [List.mem_singleton] at h
                subst h
                have hzz := hZ.out
                unfold NoZ at hzz
                rw [List.take_of_length_le (by rw [HS2.out]; exact Nat.le_refl _), HSL.out] at hzz
                refine ⟨by rw [<- HSL.out]; exact hne.out, by rw [<- HSL.out, HS2.out]; exact hsl, hzz⟩
             case measure => simp [intOf]; omega
      . have hte : i = E.length := by omega
        subst hte
        go_wp2_with (fail)
        go_ret
        refine ⟨BoolR.intro true (fun _ => HLK.out ?_), HB4.out⟩
        have h := hno.out
        rw [List.take_length] at h
        exact h
end Go.Proofs.YtilgpaeeleknhaaGreatDoor
