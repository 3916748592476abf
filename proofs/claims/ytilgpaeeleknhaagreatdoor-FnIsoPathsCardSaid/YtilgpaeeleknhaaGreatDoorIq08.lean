/-
  DERIVED. A part of the proof of laws.FnIsoPaths (for every input the law returns true and each argument reads as before; the listed variables read as listed when the call begins). It holds:
  · append(v, make([]byte, k)...): zeros behind bytes of the call's own.
-/
import Derived.Test.YtilgpaeeleknhaaGreatDoorIq06
import Derived.Lib.AppendZerosOnto
section
namespace Go.Proofs.YtilgpaeeleknhaaGreatDoor
open Go Go.RowKit
set_option linter.unusedSimpArgs false
set_option linter.unusedVariables false

theorem zeroCells_list (k : Nat) : (Builtin.zeroCells (Value.int .u8 0).cells k).toList = BVs (List.replicate k 0) := by
  have hc : (Value.int IntKind.u8 0).cells = #[.int .u8 0] := rfl
  apply List.ext_getElem?
  intro j
  simp only [Builtin.zeroCells, hc, BVs, List.map_replicate]
  simp [List.getElem?_replicate]
  by_cases h : j < k
  · simp [h]
    rw [Nat.mod_one]; rfl
  · simp [h]
theorem run_append_room_zeros {P : Program} (w : World) (t tn ty e : TypeId) (i : TypeInfo) (kq kn : IntKind) (ht : P.underlying t = some (.slice e)) (htn : P.underlying tn = some (.int kn)) (hi : P.info? e = some i) (hz : i.zero = some (.int .u8 0)) (hs1 : i.size = 1) (hb1 : i.bytes = 1)
    (g sLen sCap : Nat) (cur : Array Value) (hg : w.heap[g]? = some (.cells cur e (0, 0))) (k : Nat) (h0 : 0 < k) (hk : k ≤ 1000000000)
    (hroom : sLen + k ≤ sCap) (hfit : sLen + k ≤ cur.size) :
    (Builtin.append_ #[t, tn] ty #[.slice (some ⟨g, 0, none⟩) sLen sCap, .int kq k]).run P w =
      .ok (.slice (some ⟨g, 0, none⟩) (sLen + k) sCap) (w.setRow g (cur.toList.take sLen ++ BVs (List.replicate k 0) ++ cur.toList.drop (sLen + k)).toArray) := by
  have hzl : (BVs (List.replicate k (0 : UInt8))).length = k := by rw [length_BVs, List.length_replicate]
  have hst := run_storeCells_at P g sLen e (BVs (List.replicate k 0)) 0 cur w hg (by rw [hzl]; simpa using hfit) (BVs_one _)
  simp only [Nat.add_zero, hzl] at hst
  have hw : IntKind.i64.wrap (k : Int) = k := by rw [IntKind.wrap_i64]; omega
  have h48i : ¬ (281474976710656 < (k : Int) * (1 : Int)) := by omega
  have hneg : ¬ ((k : Int) < 0) := by omega
  have hns : ¬ (k = 0) := by omega
  have hzc := zeroCells_list k
  simp [Builtin.append_, run_underlying ht, run_underlying htn, sizeOf, typeInfo, zeroValue, hi, hz, hs1, hb1, asInt, asIntOf, hw, hneg, hns, hroom, hzc, Addr.add_lit, hst]
  intro h; omega
theorem run_append_own_zeros {P : Program} (w : World) (base : Nat) (t tn ty e : TypeId) (i : TypeInfo) (kq kn : IntKind) (ht : P.underlying t = some (.slice e)) (htn : P.underlying tn = some (.int kn)) (hi : P.info? e = some i) (hz : i.zero = some (.int .u8 0))
    (hsize : i.size = 1) (hby : i.bytes = 1)
    (v : Value) (n : Nat) (xs : List Value) (hown : w.ownsRow base e 1 v n xs) (k : Nat) (h0 : 0 < k)
    (hlen' : n + k ≤ 1000000000) (hbase : base ≤ w.heap.size) :
    ∃ v' w', (Builtin.append_ #[t, tn] ty #[v, .int kq k]).run P w = .ok v' w' ∧ w'.ownsRow base e 1 v' (n + k) (xs ++ BVs (List.replicate k 0)) ∧ w.grownBy w' v.ownBlock := by
  have h63 : n + k ≤ maxLen := by unfold maxLen; omega
  have hzl : (BVs (List.replicate k (0 : UInt8))).length = k := by rw [length_BVs, List.length_replicate]
  have hxl : xs.length = n := by simpa using hown.1
  have hlen : (xs ++ BVs (List.replicate k 0)).length = (n + k) * 1 := by rw [List.length_append, hxl, hzl, Nat.mul_one]
  have hzc := zeroCells_list k
  have grown : ∀ (old : Nat), old < n + k → ∀ (row : Option Nat),
      (w.drew.alloc (.cells (xs.toArray ++ Builtin.zeroCells (Value.int .u8 0).cells k ++ Builtin.zeroCells (Value.int .u8 0).cells (grownCap w (n + k) old e - (n + k))) e)).ownsRow base e 1
        (.slice (some ⟨w.heap.size, 0, none⟩) (n + k) (grownCap w (n + k) old e)) (n + k) (xs ++ BVs (List.replicate k 0)) ∧
      w.grownBy (w.drew.alloc (.cells (xs.toArray ++ Builtin.zeroCells (Value.int .u8 0).cells k ++ Builtin.zeroCells (Value.int .u8 0).cells (grownCap w (n + k) old e - (n + k))) e)) row := by
    intro old ho row
    have hge := grownCap_ge w (n + k) old e
    have hcm : grownCap w (n + k) old e ≤ maxLen := grownCap_le_maxLen w (n + k) old e h63
    refine ⟨⟨hlen, .inr ⟨w.heap.size, _, _, rfl, hbase, heap_alloc_new w.drew _, hge, hcm, ?_, ?_⟩⟩, ⟨rfl, rfl, rfl, by simp, fun b hb _ => heap_alloc_old w.drew _ hb⟩⟩
    · have hz1 : (Value.int IntKind.u8 0).cells.size = 1 := rfl
      simp only [Array.size_append, List.size_toArray, size_zeroCells, hz1, hxl]
      omega
    · simp only [Array.toList_append, List.append_assoc]
      rw [← List.append_assoc, hzc, ← hlen]
      exact List.take_left
  rcases hown.2 with ⟨rfl, rfl⟩ | ⟨g, cap, cur, rfl, hbg, hg, hnc, hcm, hcs, htake⟩
  · have hx : xs = [] := List.eq_nil_of_length_eq_zero hxl
    subst hx
    have hr := Lib.run_append_nil_zeros (P := P) w t tn ty e i (.int .u8 0) kq kn ht htn hi hz k h0 (by omega) (by omega) (by rw [hby]; omega)
    have hgr := grown 0 (by omega) (Value.ownBlock (.slice none 0 0))
    simp only [Nat.zero_add, List.nil_append, Array.empty_append] at hgr ⊢
    exact ⟨_, _, hr, hgr.1, hgr.2⟩
  · by_cases hroom : n + k ≤ cap
    · have hcs' : cur.size = cap := by simpa using hcs
      have hr := run_append_room_zeros (P := P) w t tn ty e i kq kn ht htn hi hz hsize hby g n cap cur hg k h0 (by omega) hroom (by omega)
      refine ⟨_, _, hr, ⟨hlen, .inr ⟨g, cap, _, rfl, hbg, setRow_heap w g cur _ e _ hg, hroom, hcm, ?_, ?_⟩⟩, ⟨rfl, rfl, rfl, by simp, fun k _ hk => setRow_other w g k _ (fun e => hk (by simp [Value.ownBlock, e]))⟩⟩
      · simp only [List.size_toArray, List.length_append, List.length_take, List.length_drop, Array.length_toList, hzl]
        omega
      · have ht' : cur.toList.take n = xs := by simpa using htake
        rw [ht', ← hlen]
        exact List.take_left
    · have holds : ∀ j u, xs[j]? = some u → w.cell? ((⟨g, 0, none⟩ : Addr).add j) = some u := hown.cells (g := g) rfl
      have hold := run_firstCells_some (P := P) w.drew i.size n ⟨g, 0, none⟩ n cap xs (by rw [hsize]; simpa using hxl) (by simpa using holds)
      have hr := Lib.run_append_grow_zeros (P := P) w t tn ty e i (.int .u8 0) kq kn ht htn hi hz (some ⟨g, 0, none⟩) n cap xs hold k h0 (by omega) (by omega) (by omega) (by rw [hby]; omega) (by rw [hby]; exact growslice_fits (by omega) (by omega))
      have hgr := grown cap (by omega) (Value.ownBlock (.slice (some ⟨g, 0, none⟩) n cap))
      exact ⟨_, _, hr, hgr.1, hgr.2⟩
/-- append(v, make([]byte, k)...), k at least one. -/
theorem go_appZ_of {P : Program} {o : Oper} {a : Act} {w : World} {K : Act → World → Prop} {Q : Exit → Act → World → Prop} (h27 : P.underlying 27 = some (.slice 5)) (h3 : P.underlying 3 = some (.int .i64)) (h5 : (P.info? 5).map (fun i => (i.zero, i.size, i.bytes)) = some (some (.int .u8 0), 1, 1)) (s x : Operand)
    (ho : o.op = .call { callee := .builtin .append, args := #[s, x], argTypes := #[27, 3] })
    (B n c k : Nat) (A : Option Addr) (l : List UInt8) (hn : n = l.length) (hs : a.eval s = .slice A n c) (hown : Own w B (.slice A n c) l) (Z : Int) (hx : a.eval x = .int .i64 Z) (hZ : Z = k) (h0 : 0 < k) (hlen : n + k ≤ 1000000000) (hB : B ≤ w.heap.size)
    (h : ∀ A' c' w', Own w' B (.slice A' (n + k) c') (l ++ List.replicate k 0) → Below B w w' → w.grownBy w' (Value.slice A n c).ownBlock → K (a.put o.dst (.slice A' (n + k) c')) w') :
    Oper.wp P o a w K Q := by
  subst hn; subst hZ
  obtain ⟨i, hi, hz, hsz, hby⟩ := info_parts h5
  obtain ⟨v', w', hr, h2, h3'⟩ := run_append_own_zeros (P := P) w B 27 3 o.type 5 i .i64 .i64 h27 h3 hi hz hsz hby _ l.length (BVs l) hown k h0 hlen hB
  unfold Oper.wp execOp
  simp only [ho, resolve, invoke, builtin, Sem.run_bind, Sem.run_pure, Result.andThen_ok, List.map_toArray, List.map_cons, List.map_nil, hs, hx, hr]
  have hO : Own w' B v' (l ++ List.replicate k 0) := by
    unfold Own
    rw [List.length_append, BVs_append, List.length_replicate]
    exact h2
  obtain ⟨A', c', rfl, _, _⟩ := hO.shape
  have e : (l ++ List.replicate k (0 : UInt8)).length = l.length + k := by rw [List.length_append, List.length_replicate]
  rw [e] at hO ⊢
  exact h A' c' w' hO ((Below.refl B w).grown h3' hB (fun k hk => (World.ownsRow.lt hown k hk).1)) h3'
theorem under3 : Tryz.prog.underlying 3 = some (.int .i64) := Tryz.underlying3
abbrev go_appZ {o : Oper} {a : Act} {w : World} {K : Act → World → Prop} {Q : Exit → Act → World → Prop} := @go_appZ_of Tryz.prog o a w K Q Tryz.underlying27 under3 info5
end Go.Proofs.YtilgpaeeleknhaaGreatDoor
end
