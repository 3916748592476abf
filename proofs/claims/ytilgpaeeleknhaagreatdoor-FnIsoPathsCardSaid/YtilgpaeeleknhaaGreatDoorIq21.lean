/-
  DERIVED. A part of the proof of laws.FnIsoPaths (for every input the law returns true and each argument reads as before; the listed variables read as listed when the call begins). It holds:
  · Structs by value at a block's head: load and store of any struct.
-/
import Derived.Test.YtilgpaeeleknhaaGreatDoorIq20
section
namespace Go.Proofs.YtilgpaeeleknhaaGreatDoor
open Go Go.RowKit
set_option linter.unusedSimpArgs false
set_option linter.unusedVariables false

theorem rangeAt_block {w : World} {b : Nat} {cs : List Value} {t : TypeId} (h : w.heap[b]? = some (.cells cs.toArray t)) : w.rangeAt b 0 cs := by
  intro j v hj
  simp only [World.cell?, h]
  simpa using hj
/-- A struct is loaded from a block's head. -/
theorem wpList_loadB {ops : Array Oper} {rest : List Oper} {o : Oper} {a : Act} {w : World} {Q : Exit → Act → World → Prop} (hgd : o.guard = none) (ty : TypeId) (x : Operand) (ho : o.op = .load ty x)
    {b : Nat} (hx : a.eval x = .pointer (some ⟨b, 0, none⟩)) (cs : List Value) (t : TypeId) (h : w.heap[b]? = some (.cells cs.toArray t)) (hr : (Tryz.prog.underlying ty).map (·.isRow) = some true) (hi : (Tryz.prog.info? ty).map (·.size) = some cs.length)
    (hK : wpList Tryz.prog ops Q rest (a.put o.dst (.agg cs.toArray)) w) : wpList Tryz.prog ops Q (o :: rest) a w := by
  obtain ⟨d, hd, hr⟩ := isRow_of hr
  exact wpList_load_mid hgd ty x ho b 0 hx cs d (rangeAt_block h) hd hr hi hK
/-- A struct is stored to a block's head. -/
theorem wpList_storeB {ops : Array Oper} {rest : List Oper} {o : Oper} {a : Act} {w : World} {Q : Exit → Act → World → Prop} (hgd : o.guard = none) (ty : TypeId) (x y : Operand) (ho : o.op = .store ty x y)
    {b : Nat} (hx : a.eval x = .pointer (some ⟨b, 0, none⟩)) (cs old : List Value) (t : TypeId) (hy : a.eval y = .agg cs.toArray) (h : w.heap[b]? = some (.cells old.toArray t)) (hi : (Tryz.prog.info? ty).map (·.size) = some cs.length) (hold : old.length = cs.length) (h1 : cs.all (·.oneCell') = true)
    (hK : ∀ w', w'.heap[b]? = some (.cells cs.toArray t) → (∀ M, M ≤ b → Below M w w') → (∀ k, k ≠ b → w'.heap[k]? = w.heap[k]?) → w'.heap.size = w.heap.size → wpList Tryz.prog ops Q rest (a.put o.dst undef) w') : wpList Tryz.prog ops Q (o :: rest) a w := by
  refine wpList_plain hgd fun K hKK => wp_store_row ty x y ho b cs.toArray hx hy t old.toArray h (by simpa using hi) (by simpa using hold) (by rw [← Array.all_toList]; exact h1) ?_
  refine hKK _ _ (hK _ (setRow_heap w b old.toArray _ t _ h) (fun M hM => ?_) (fun k hk => setRow_other w b k _ hk) (size_setRow w b _))
  exact ⟨rfl, rfl, rfl, Nat.le_of_eq (size_setRow w b _).symm, fun k hk => setRow_other w b k _ (by omega)⟩
end Go.Proofs.YtilgpaeeleknhaaGreatDoor
end
