/- A part of the proof of laws.FnIsoRock (see the last text). -/
import Derived.Test.YtilgpaeeleknhaaGreatDoorJr06
import Derived.Lib.SlBytesConst
set_option linter.unusedSimpArgs false
set_option linter.unusedVariables false
set_option maxRecDepth 1000000
set_option maxHeartbeats 8000000
namespace Go.Proofs.YtilgpaeeleknhaaGreatDoor
open Go Go.RowKit
theorem days_some (y m d : Int) (w : World) : Calls Tryz.prog 151 #[.int .i64 y, .int .i64 m, .int .i64 d] w fun e w' => (∃ z, e = .returned (.int .i64 z)) /\ w' = w := by
 go_enter Tryz.func151, Tryz.ntmps151
 go_wp2_with (fail)
 all_goals go_ret
 all_goals exact ⟨⟨_, rfl⟩, rfl⟩
theorem info160 : (Tryz.prog.info? 160).map (·.size) = some 3 := by kernel_rfl
theorem unix_some (z : Int) (w : World) : Calls Tryz.prog 152 #[.int .i64 z, .int .i64 0] w fun e w' => (∃ t, e = .returned (.agg #[.int .i64 t, .int .i64 0, .int .i64 0])) /\ Below w.heap.size w w' := by
 go_enter Tryz.func152, Tryz.ntmps152
 go_wp2_with (fail)
 refine bodyPost_ret (v := .agg #[_, _, _]) (results_cell_row rfl _ _ w.heap.size 160 #[_, _, _] (0, 0) _ rfl (heap_alloc_new w _) Tryz.underlying160 rfl (by exact info160)) rfl ?_
 exact ⟨⟨_, rfl⟩, (Below.refl _ _).alloc (Nat.le_refl _) _⟩
theorem zone_any (s : ByteArray) (z : Int) (w : World) : Calls Tryz.prog 162 #[.string s, .int .i64 z] w fun e w' => e = .returned (.int .i64 z) /\ w' = w := by
 go_enter Tryz.func162, Tryz.ntmps162
 go_wp2_with (fail)
 go_ret
 exact ⟨rfl, rfl⟩
theorem old_box {w w2 : World} (h : Below (w.alloc (.cells #[.int .i64 0, .int .i64 0, .int .i64 0] 160)).heap.size (w.alloc (.cells #[.int .i64 0, .int .i64 0, .int .i64 0] 160)) w2) : w2.heap[w.heap.size]? = some (.cells #[.int .i64 0, .int .i64 0, .int .i64 0] 160) /\
 (w2.cell? ⟨w.heap.size, 0, none⟩ = some (.int .i64 0) /\ w2.cell? ⟨w.heap.size, 1, none⟩ = some (.int .i64 0) /\ w2.cell? ⟨w.heap.size, 2, none⟩ = some (.int .i64 0) /\
 w2.frozen? ⟨w.heap.size, 0, none⟩ = false /\ w2.frozen? ⟨w.heap.size, 1, none⟩ = false /\ w2.frozen? ⟨w.heap.size, 2, none⟩ = false) := by
 have e : w2.heap[w.heap.size]? = some (.cells #[.int .i64 0, .int .i64 0, .int .i64 0] 160) := by
  rw [h.block w.heap.size (by show w.heap.size < (w.heap.push _).size; simp)]
  exact heap_alloc_new w _
 refine ⟨e, ?_⟩
 simp [World.cell?, World.frozen?, e]
theorem old_alloc {w2 : World} {k : Nat} {o b : Obj} (h : w2.heap[k]? = some o) : (w2.alloc b).heap[k]? = some o := by
 have hk := (Array.getElem?_eq_some_iff.1 h).1
 show (w2.heap.push b)[k]? = _
 rw [Array.getElem?_push, if_neg (by omega)]; exact h
theorem old_cell {w2 : World} {a : Addr} {v : Value} (o : Obj) (h : w2.cell? a = some v) : (w2.alloc o).cell? a = some v := Lib.cell?_alloc_marked o h
theorem old_frozen {w2 : World} {k : Nat} (o : Obj) (h : w2.heap[k]? = some (.cells #[.int .i64 0, .int .i64 0, .int .i64 0] 160)) (j : Nat) : (w2.alloc o).frozen? ⟨k, j, none⟩ = false := by
 simp [World.frozen?, old_alloc (b := o) h]
theorem three_set {W : World} {k : Nat} {x y z a b c : Value} (h : W.heap[k]? = some (.cells #[x, y, z] 160)) : (((W.setCell ⟨k, 0, none⟩ a).setCell ⟨k, 1, none⟩ b).setCell ⟨k, 2, none⟩ c).heap[k]? = some (.cells #[a, b, c] 160) := by
 have h1 := heap_setCell_same W k 0 #[x, y, z] 160 a h
 have h2 := heap_setCell_same _ k 1 _ 160 b h1
 have h3 := heap_setCell_same _ k 2 _ 160 c h2
 simpa using h3
theorem date_some (y m d h mi s l : Int) (w : World) : Calls Tryz.prog 142 #[.int .i64 y, .int .i64 m, .int .i64 d, .int .i64 h, .int .i64 mi, .int .i64 s, .int .i64 0, .int .i64 l] w fun e w' => (∃ t a, e = .returned (.agg #[.int .i64 t, .int .i64 0, .int .i64 a])) /\ Below w.heap.size w w' := by
 go_enter Tryz.func142, Tryz.ntmps142
 go_wp2_with (first
  | (go_at_call 152; refine (unix_some _ _).mono ?_; rintro e w2 ⟨⟨t, rfl⟩, hb2⟩; have hz2 := old_box hb2; have A0 := fun o => old_cell o hz2.2.1; have A1 := fun o => old_cell o hz2.2.2.1; have A2 := fun o => old_cell o hz2.2.2.2.1; have R0 := fun o => old_frozen o hz2.1 0; have R1 := fun o => old_frozen o hz2.1 1; have R2 := fun o => old_frozen o hz2.1 2; have hz2 := Lib.hid hz2.1; have HB2 := Lib.hid hb2; clear hb2)
  | (go_at_call 151; refine (days_some _ _ _ _).mono ?_; rintro e w1 ⟨⟨z, rfl⟩, rfl⟩))
 refine bodyPost_ret (v := .agg #[_, _, _]) (results_cell_row rfl _ _ w.heap.size 160 #[_, _, _] (0, 0) _ rfl (three_set (old_alloc hz2.out)) Tryz.underlying160 rfl (by exact info160)) rfl ?_
 refine ⟨⟨_, _, rfl⟩, ?_⟩
 have hb := HB2.out
 exact (((((((Below.refl _ _).alloc (Nat.le_refl _) _).trans (hb.mono (by show w.heap.size <= (w.heap.push _).size; simp))).alloc (Nat.le_trans (by show w.heap.size <= (w.heap.push _).size; simp) hb.size) _).setCell (Nat.le_refl _) _).setCell (Nat.le_refl _) _).setCell (Nat.le_refl _) _)
theorem bytesToTime_some (D o n c : Nat) (x0 x1 x2 x3 x4 x5 x6 : UInt8) (w : World) (hn : 7 <= n)
 (k0 : w.cell? ⟨D, o, none⟩ = some (.int .u8 (x0.toNat : Int))) (k1 : w.cell? ⟨D, o + 1, none⟩ = some (.int .u8 (x1.toNat : Int))) (k2 : w.cell? ⟨D, o + 2, none⟩ = some (.int .u8 (x2.toNat : Int))) (k3 : w.cell? ⟨D, o + 3, none⟩ = some (.int .u8 (x3.toNat : Int))) (k4 : w.cell? ⟨D, o + 4, none⟩ = some (.int .u8 (x4.toNat : Int))) (k5 : w.cell? ⟨D, o + 5, none⟩ = some (.int .u8 (x5.toNat : Int))) (k6 : w.cell? ⟨D, o + 6, none⟩ = some (.int .u8 (x6.toNat : Int))) :
 Calls Tryz.prog 153 #[.slice (some ⟨D, o, none⟩) n c] w fun e w' => (∃ t a, e = .returned (.agg #[.int .i64 t, .int .i64 0, .int .i64 a])) /\ Below w.heap.size w w' := by
 have K0 := fun o => old_cell o k0
 have K1 := fun o => old_cell o k1
 have K2 := fun o => old_cell o k2
 have K3 := fun o => old_cell o k3
 have K4 := fun o => old_cell o k4
 have K5 := fun o => old_cell o k5
 have K6 := fun o => old_cell o k6
 clear k0 k1 k2 k3 k4 k5 k6
 have l0 := x0.toNat_lt
 have l1 := x1.toNat_lt
 have l2 := x2.toNat_lt
 have l3 := x3.toNat_lt
 have l4 := x4.toNat_lt
 have l5 := x5.toNat_lt
 have l6 := x6.toNat_lt
 go_enter Tryz.func153, Tryz.ntmps153
 go_wp2_with (first
  | (go_at_call 142; refine (date_some _ _ _ _ _ _ _ _).mono ?_; rintro e w2 ⟨⟨t, a, rfl⟩, hb2⟩; have hz2 := old_box hb2; obtain ⟨A0, A1, A2, R0, R1, R2⟩ := hz2.2; have hz2 := Lib.hid hz2.1; have HB2 := Lib.hid hb2; clear hb2)
  | (go_at_call 162; refine (zone_any _ _ _).mono ?_; rintro e w1 ⟨rfl, rfl⟩))
 refine bodyPost_ret (v := .agg #[_, _, _]) (results_cell_row rfl _ _ w.heap.size 160 #[_, _, _] (0, 0) _ rfl (three_set hz2.out) Tryz.underlying160 rfl (by exact info160)) rfl ?_
 refine ⟨⟨_, _, rfl⟩, ?_⟩
 have hb := HB2.out
 exact ((((((Below.refl _ _).alloc (Nat.le_refl _) _).trans (hb.mono (by show w.heap.size <= (w.heap.push _).size; simp))).setCell (Nat.le_refl _) _).setCell (Nat.le_refl _) _).setCell (Nat.le_refl _) _)
end Go.Proofs.YtilgpaeeleknhaaGreatDoor
