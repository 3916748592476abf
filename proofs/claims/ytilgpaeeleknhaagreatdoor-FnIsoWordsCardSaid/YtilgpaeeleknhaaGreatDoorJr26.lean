/- A part of the proof of laws.FnIsoRock (see the last text). -/
import Derived.Test.YtilgpaeeleknhaaGreatDoorJr25
import Derived.Test.YtilgpaeeleknhaaGreatDoorJr21
set_option linter.unusedSimpArgs false
set_option linter.unusedVariables false
set_option maxRecDepth 1000000
set_option maxHeartbeats 8000000
namespace Go.Proofs.YtilgpaeeleknhaaGreatDoor
open Go Go.RowKit
def Rec.told (r : Rec) : ByteArray := if r.d then r.name else ofL (Lib.trimPrefix (Lib.trimSuffix (Lib.trimSuffix r.name.data.toList [59, 49]) [46]) [46])
theorem trimSuffix_len (s p : List UInt8) : (Lib.trimSuffix s p).length <= s.length := by
 unfold Lib.trimSuffix; split
 . simp
 . exact Nat.le_refl _
theorem isDir_any (w : World) (b : Nat) (r : Rec) (fs : Value) (h : EntAt w b r fs) : Calls Tryz.prog 90 #[PB b] w fun e w' => e = .returned (.bool r.d) /\ w' = w := by
 have hd := h.cells.d
 go_enter Tryz.func90, Tryz.ntmps90
 go_wp2
 go_ret
 exact ⟨rfl, rfl⟩
theorem size_any (w : World) (b : Nat) (r : Rec) (fs : Value) (h : EntAt w b r fs) (hs : r.s < 4294967296) : Calls Tryz.prog 67 #[PB b] w fun e w' => e = .returned (.int .i64 r.s) /\ w' = w := by
 have hd := h.cells.s
 go_enter Tryz.func67, Tryz.ntmps67
 go_wp2
 go_ret
 exact ⟨rfl, rfl⟩
theorem info_any (w : World) (b : Nat) : Calls Tryz.prog 186 #[PB b] w fun e w' => e = .returned (.tuple #[.iface 116 (PB b), .nilIface]) /\ w' = w := by
 go_enter Tryz.func186, Tryz.ntmps186
 go_wp2
 go_ret2
 exact ⟨rfl, rfl⟩
theorem name_any (w : World) (b F : Nat) (r : Rec) (h : EntAt w b r (PB F)) (hF : w.cell? ⟨F, 11, none⟩ = some (.bool false)) (hs : r.name.size <= 1000) : Calls Tryz.prog 89 #[PB b] w fun e w' => e = .returned (.string r.told) /\ w' = w := by
 have hd := h.cells.name
 have hf := h.cells.fs
 cases hdir : r.d with
 | true =>
   go_enter Tryz.func89, Tryz.ntmps89
   go_wp2_with (go_at_call 90; refine (isDir_any _ b r _ h).mono ?_; rintro e w1 ⟨rfl, rfl⟩; rw [hdir])
   go_ret
   exact ⟨by simp [Rec.told, hdir], rfl⟩
 | false =>
   have hT : (⟨(Lib.trimSuffix r.name.data.toList [59, 49]).toArray⟩ : ByteArray).size <= 9223372036854775807 := by
    have h := trimSuffix_len r.name.data.toList [59, 49]
    rw [<- Lib.size_eq] at h
    show (List.toArray _).size <= _
    rw [List.size_toArray]
    omega
   have hT0 : r.name.size <= 9223372036854775807 := by omega
   have HT := Lib.hid hT; have HT0 := Lib.hid hT0
   clear hT hT0
   go_enter Tryz.func89, Tryz.ntmps89
   go_upto_region 12 with (first
    | (go_at_call 116; refine (Tryz.strings_TrimSuffix r.name _ _ HT0.out).mono ?_; rintro e w2 ⟨rfl, rfl⟩)
    | (go_at_call 90; refine (isDir_any _ b r _ h).mono ?_; rintro e w1 ⟨rfl, rfl⟩; rw [hdir]))
   go_wp2_with (first
    | (go_at_call 117; refine (Tryz.strings_TrimPrefix _ _ _).mono ?_; rintro e w4 ⟨rfl, rfl⟩)
    | (go_at_call 116; refine (Tryz.strings_TrimSuffix _ _ _ HT.out).mono ?_; rintro e w3 ⟨rfl, rfl⟩))
   go_ret
   exact ⟨by simp [Rec.told, hdir], rfl⟩
theorem mode_any (w : World) (b : Nat) (r : Rec) (fs : Value) (h : EntAt w b r fs) : Calls Tryz.prog 188 #[PB b] w fun e w' => e = .returned (.int .u32 (if r.d then 2147484141 else 493)) /\ w' = w := by
 have hd := h.cells.d
 obtain ⟨X, co, hx⟩ := h.cells.exts
 cases hdir : r.d with
 | true =>
   rw [hdir] at hd
   go_enter Tryz.func188, Tryz.ntmps188
   go_wp2
   refine wp_loop_rounds 1 ?_
   rw [rounds_succ]
   go_wp2
   go_ret
   exact ⟨rfl, rfl⟩
 | false =>
   rw [hdir] at hd
   go_enter Tryz.func188, Tryz.ntmps188
   go_wp2
   refine wp_loop_rounds 1 ?_
   rw [rounds_succ]
   go_wp2
   refine wp_loop_rounds 1 ?_
   rw [rounds_succ]
   go_wp2
   go_ret
   exact ⟨rfl, rfl⟩
theorem modTime_any (w : World) (b : Nat) (r : Rec) (fs : Value) (h : EntAt w b r fs) : Calls Tryz.prog 187 #[PB b] w fun e w' => ∃ x a, e = .returned (.agg #[.int .i64 x, .int .i64 0, .int .i64 a]) /\ TimeOf r.t x a /\ Below w.heap.size w w' := by
 have hb := h.lt
 obtain ⟨x, a, X, co, ht, h⟩ := h
 have c3 := fun o => old_cell o (entC_cell h 3 _ rfl)
 have c4 := fun o => old_cell o (entC_cell h 4 _ rfl)
 have c5 := fun o => old_cell o (entC_cell h 5 _ rfl)
 go_enter Tryz.func187, Tryz.ntmps187
 go_wp2
 refine bodyPost_ret (v := .agg #[_, _, _]) (results_cell_row rfl _ _ w.heap.size 160 #[_, _, _] (0, 0) _ rfl (heap_alloc_new w _) Tryz.underlying160 rfl (by exact info160)) rfl ?_
 exact ⟨x, a, rfl, ht, (Below.refl _ _).alloc (Nat.le_refl _) _⟩
theorem unix_any (x n a : Int) (w : World) : Calls Tryz.prog 92 #[.agg #[.int .i64 x, .int .i64 n, .int .i64 a]] w fun e w' => e = .returned (.int .i64 (wrap64 (x - 62135596800))) /\ Below w.heap.size w w' := by
 go_enter Tryz.func92, Tryz.ntmps92
 go_wp2
 go_ret
 exact ⟨rfl, (Below.refl _ _).alloc (Nat.le_refl _) _⟩
def statC (r : Rec) : List Value := [.int .u8 0, .int .u32 r.e, .int .u16 1, .bool false, .bool false, .bool false, .bool false, .int .u32 0, .int .u32 0, .int .u32 0, .int .u32 0, .string ⟨#[]⟩, .bool false]
theorem statT_any (w : World) (b : Nat) (r : Rec) (fs : Value) (h : EntAt w b r fs) : Calls Tryz.prog 192 #[PB b] w fun e w' => ∃ k, e = .returned (PB k) /\ w.heap.size <= k /\ w'.heap[k]? = some (.cells (statC r).toArray 207) /\ Below w.heap.size w w' := by
 have hb := h.lt
 obtain ⟨x, a, X, co, ht, h⟩ := h
 have c0 := entC_cell h 0 _ rfl
 have c1 := entC_cell h 1 _ rfl
 have c15 := entC_cell h 15 _ rfl
 have c6 := entC_cell h 6 _ rfl
 have c8 := entC_cell h 8 _ rfl
 have c9 := entC_cell h 9 _ rfl
 have c10 := entC_cell h 10 _ rfl
 have c18 := entC_cell h 18 _ rfl
 obtain ⟨re, hre⟩ : ∃ re, r.e = re := ⟨_, rfl⟩
 rw [hre] at c1
 have HRE := Lib.hid hre
 clear h hre
 go_enter Tryz.func192, Tryz.ntmps192
 go_wp2
 go_region_held3 (fun W => W.cell? ⟨b, 0, none⟩ = some (.int .u8 0) /\ W.cell? ⟨b, 1, none⟩ = some (.int .u32 re) /\ W.cell? ⟨b, 15, none⟩ = some (.int .u16 1) /\ W.cell? ⟨b, 6, none⟩ = some (.bool false) /\ W.cell? ⟨b, 8, none⟩ = some (.bool false) /\ W.cell? ⟨b, 9, none⟩ = some (.bool false) /\ W.cell? ⟨b, 10, none⟩ = some (.bool false) /\ W.cell? ⟨b, 18, none⟩ = some (.slice X 0 co)) (first | exact ⟨c0, c1, c15, c6, c8, c9, c10, c18⟩ | go_keep) (fail)
 go_wp2
 refine wp_loop_rounds 1 ?_
 rw [rounds_succ]
 go_wp2
 go_ret
 refine ⟨w.heap.size, rfl, Nat.le_refl _, ?_, ((Below.refl _ _).alloc (Nat.le_refl _) _).drew⟩
 unfold statC; rw [HRE.out]; exact heap_alloc_new w _
theorem sys_any (w : World) (b : Nat) (r : Rec) (fs : Value) (h : EntAt w b r fs) : Calls Tryz.prog 190 #[PB b] w fun e w' => ∃ k, e = .returned (.iface 205 (PB k)) /\ w.heap.size <= k /\ w'.heap[k]? = some (.cells (statC r).toArray 207) /\ Below w.heap.size w w' := by
 go_enter Tryz.func190, Tryz.ntmps190
 go_wp2_with (go_at_call 192; refine (statT_any _ b r fs h).mono ?_; rintro e w2 ⟨k, rfl, hk, hh, hb⟩)
 go_ret
 exact ⟨k, rfl, hk, hh, hb⟩
theorem bits_any (d : Bool) (w : World) : Calls Tryz.prog 91 #[.int .u32 (if d then 2147484141 else 493)] w fun e w' => e = .returned (.int .u32 493) /\ w' = w := by
 cases d
 . go_enter Tryz.func91, Tryz.ntmps91
   go_wp2
   go_ret
   exact ⟨rfl, rfl⟩
 . go_enter Tryz.func91, Tryz.ntmps91
   go_wp2
   go_ret
   exact ⟨rfl, rfl⟩
theorem regular_any (d : Bool) (w : World) : Calls Tryz.prog 93 #[.int .u32 (if d then 2147484141 else 493)] w fun e w' => e = .returned (.bool (!d)) /\ w' = w := by
 cases d
 . go_enter Tryz.func93, Tryz.ntmps93
   go_wp2
   go_ret
   exact ⟨rfl, rfl⟩
 . go_enter Tryz.func93, Tryz.ntmps93
   go_wp2
   go_ret
   exact ⟨rfl, rfl⟩
def leafC (path nm : ByteArray) (r : Rec) (tm : Int) : List Value := [.string path, .string nm, .bool r.d, .bool false, .bool false, .int .u32 493, .int .i64 r.s, .int .i64 tm, .int .u32 0, .int .u32 0, .int .u32 0, .int .u32 0, .string ⟨#[]⟩, .string ⟨#[]⟩, .string ⟨#[]⟩]
theorem method_Mode (a : Addr) (w : World) : (method 510 116 (.pointer (some a)) "Mode").run Tryz.prog w = .ok (188, .pointer (some a)) w := by kernel_rfl
theorem method_Name (a : Addr) (w : World) : (method 510 116 (.pointer (some a)) "Name").run Tryz.prog w = .ok (89, .pointer (some a)) w := by kernel_rfl
theorem method_IsDir (a : Addr) (w : World) : (method 510 116 (.pointer (some a)) "IsDir").run Tryz.prog w = .ok (90, .pointer (some a)) w := by kernel_rfl
theorem method_Size (a : Addr) (w : World) : (method 510 116 (.pointer (some a)) "Size").run Tryz.prog w = .ok (67, .pointer (some a)) w := by kernel_rfl
theorem method_ModTime (a : Addr) (w : World) : (method 510 116 (.pointer (some a)) "ModTime").run Tryz.prog w = .ok (187, .pointer (some a)) w := by kernel_rfl
theorem method_Sys (a : Addr) (w : World) : (method 510 116 (.pointer (some a)) "Sys").run Tryz.prog w = .ok (190, .pointer (some a)) w := by kernel_rfl
theorem method_Info (a : Addr) (w : World) : (method 510 116 (.pointer (some a)) "Info").run Tryz.prog w = .ok (186, .pointer (some a)) w := by kernel_rfl
theorem as205 (v : Value) (w : World) : (Instr.typeAssert (.iface 205 v) 20 205 true).run Tryz.prog w = .ok (.tuple #[v, .bool true]) w := by kernel_rfl
theorem ent_cell {w : World} {b : Nat} {cs : List Value} {t : TypeId} (h : w.heap[b]? = some (.cells cs.toArray t)) (k : Nat) (v : Value) (hv : cs[k]? = some v) : w.cell? ⟨b, k, none⟩ = some v := by
 simp only [World.cell?, h]
 simpa using hv
theorem ent_frozen {w : World} {b : Nat} {cs : List Value} {t : TypeId} (h : w.heap[b]? = some (.cells cs.toArray t)) (k : Nat) : w.frozen? ⟨b, k, none⟩ = false := by
 simp [World.frozen?, h]
theorem set_same {w : World} {b j : Nat} {cs : List Value} {v : Value} {t : TypeId} (h : w.heap[b]? = some (.cells cs.toArray t)) (hv : cs[j]? = some v) : (w.setCell ⟨b, j, none⟩ v).heap[b]? = some (.cells cs.toArray t) := by
 have := heap_setCell_same w b j _ t v h
 rw [this]
 congr 2
 have hj := (List.getElem?_eq_some_iff.1 hv).1
 apply Array.ext'
 simp only [Array.toList_setIfInBounds, List.toList_toArray]
 rw [<- (List.getElem?_eq_some_iff.1 hv).2, List.set_getElem_self]
theorem set_id {w : World} {b j : Nat} {cs : List Value} {v : Value} {t : TypeId} (h : w.heap[b]? = some (.cells cs.toArray t)) (hv : cs[j]? = some v) : w.setCell ⟨b, j, none⟩ v = w := by
 have e : (w.setCell ⟨b, j, none⟩ v).heap = w.heap := by
  apply Array.ext_getElem?
  intro i
  by_cases hi : i = b
  . subst hi; rw [set_same h hv, h]
  . exact heap_setCell_other w ⟨b, j, none⟩ i v hi
 have : w.setCell ⟨b, j, none⟩ v = { w with heap := (w.setCell ⟨b, j, none⟩ v).heap } := rfl
 rw [this, e]
theorem info39 : (Tryz.prog.info? 39).map (·.size) = some 15 := by kernel_rfl
theorem under39 : Tryz.prog.underlying 39 = Tryz.prog.underlying 39 := rfl
theorem mode_of (w : World) (b : Nat) (r : Rec) (fs : Value) (m : Int) (h : EntAt w b r fs) (hm : (if r.d then 2147484141 else 493) = m) : Calls Tryz.prog 188 #[PB b] w fun e w' => e = .returned (.int .u32 m) /\ w' = w := by
 subst hm; exact mode_any w b r fs h
theorem leaf_any (path : ByteArray) (w : World) (b F : Nat) (r : Rec) (h : EntAt w b r (PB F)) (hF : w.cell? ⟨F, 11, none⟩ = some (.bool false)) (hn : r.name.size <= 1000) (hs : r.s < 4294967296) :
 Calls Tryz.prog 72 #[.string path, .iface 116 (PB b)] w fun e w' => ∃ x a, e = .returned (.agg (leafC path r.told r (wrap64 (x - 62135596800))).toArray) /\ TimeOf r.t x a /\ Below w.heap.size w w' := by
 have q205 := as205
 have m1 := method_Mode ⟨b, 0, none⟩
 have m2 := method_Name ⟨b, 0, none⟩
 have m3 := method_IsDir ⟨b, 0, none⟩
 have m4 := method_Size ⟨b, 0, none⟩
 have m5 := method_ModTime ⟨b, 0, none⟩
 have m6 := method_Sys ⟨b, 0, none⟩
 have hbl := h.lt
 have hFl : F < w.heap.size := cell_lt hF
 have HE := Lib.hid h
 have HF11 := Lib.hid hF
 clear h hF
 have KE : ∀ W : World, Below w.heap.size w W -> EntAt W b r (PB F) := fun W hW => HE.out.later hW
 have KF : ∀ W : World, Below w.heap.size w W -> W.cell? ⟨F, 11, none⟩ = some (.bool false) := fun W hW => by rw [hW.cell (p := ⟨F, 11, none⟩) hFl]; exact HF11.out
 have KE' := Lib.hid KE; have KF' := Lib.hid KF
 clear KE KF
 cases hdir : r.d with
 | true =>
   have hmd : (if r.d then (2147484141 : Int) else 493) = 2147484141 := by rw [hdir]; rfl
   have HMD := Lib.hid hmd; have HD := Lib.hid hdir
   have bt : bits .and .u32 2147484141 134217728 = 0 := by decide
   clear hmd hdir
   go_enter Tryz.func72, Tryz.ntmps72
   go_wp2_with (first
    | (go_at_call 190; refine (sys_any _ b r _ (KE'.out _ (hw8.alloc hw8.size _))).mono ?_; rintro e w9 ⟨k, rfl, hk, hhk, hb9⟩; have hL := (hb9.block w7.heap.size (by show w7.heap.size < (w7.heap.push _).size; simp)).trans (heap_alloc_new w7 _))
    | (go_at_call 93; refine (regular_any true _).mono ?_; rintro e w8' ⟨rfl, rfl⟩)
    | (go_at_call 92; refine (unix_any _ _ _ _).mono ?_; rintro e w7 ⟨rfl, hb7⟩; have hw8 := hw7.trans (hb7.mono hw7.size))
    | (go_at_call 187; refine (modTime_any _ b r _ (KE'.out _ ((Below.refl _ _).alloc (Nat.le_refl _) _))).mono ?_; rintro e w6 ⟨x, a, rfl, ht, hb6⟩; have hw7 := ((Below.refl _ _).alloc (Nat.le_refl _) _).trans (hb6.mono (by simp)))
    | (go_at_call 67; refine (size_any _ b r _ (KE'.out _ ((Below.refl _ _).alloc (Nat.le_refl _) _)) hs).mono ?_; rintro e w5 ⟨rfl, rfl⟩)
    | (go_at_call 91; refine (bits_any true _).mono ?_; rintro e w4 ⟨rfl, rfl⟩)
    | (go_at_call 90; refine (isDir_any _ b r _ (KE'.out _ ((Below.refl _ _).alloc (Nat.le_refl _) _))).mono ?_; rintro e w3 ⟨rfl, rfl⟩; rw [HD.out])
    | (go_at_call 89; refine (name_any _ b F r (KE'.out _ ((Below.refl _ _).alloc (Nat.le_refl _) _)) (KF'.out _ ((Below.refl _ _).alloc (Nat.le_refl _) _)) hn).mono ?_; rintro e w2 ⟨rfl, rfl⟩)
    | (go_at_call 188; refine (mode_of _ b r _ _ (KE'.out _ ((Below.refl _ _).alloc (Nat.le_refl _) _)) HMD.out).mono ?_; rintro e w1 ⟨rfl, rfl⟩))
   obtain ⟨L, hLe⟩ : ∃ L, L = w7.heap.size := ⟨_, rfl⟩
   have hkL : L < k := by rw [hLe]; have := hk; simp at this; omega
   rw [<- hLe] at hL ⊢
   have HB9 := Lib.hid hb9; have HT := Lib.hid ht; have HLE := Lib.hid hLe; have HW8 := Lib.hid hw8
   have hsz6 : w.heap.size < w6.heap.size := by have := hb6.size; simp at this; omega
   have hsz7 : w.heap.size < w7.heap.size := Nat.lt_of_lt_of_le hsz6 hb7.size
   have r6 := (hb6.block w.heap.size (by simp)).trans (heap_alloc_new w _)
   have r7 := (hb7.block w.heap.size hsz6).trans r6
   have r9 := Lib.hid ((hb9.block w.heap.size (by simp; omega)).trans ((heap_alloc_old w7 _ hsz7).trans r7))
   clear r6 r7 hsz6
   clear hb9 hk hLe hb6 hb7 hw7 hw8 m1 m2 m3 m4 m5 m6 q205
   have l8 := ent_cell hL 8 _ rfl
   have l9 := ent_cell hL 9 _ rfl
   have l10 := ent_cell hL 10 _ rfl
   have l11 := ent_cell hL 11 _ rfl
   have l12 := ent_cell hL 12 _ rfl
   have fr := fun j => ent_frozen hL j
   have E8 : w9.setCell ⟨L, 8, none⟩ (.int .u32 0) = w9 := set_id hL rfl
   have E9 : w9.setCell ⟨L, 9, none⟩ (.int .u32 0) = w9 := set_id hL rfl
   have E10 : w9.setCell ⟨L, 10, none⟩ (.int .u32 0) = w9 := set_id hL rfl
   have E11 : w9.setCell ⟨L, 11, none⟩ (.int .u32 0) = w9 := set_id hL rfl
   have E12 : w9.setCell ⟨L, 12, none⟩ (.string ⟨#[]⟩) = w9 := set_id hL rfl
   have k7 := ent_cell hhk 7 _ rfl; have k8 := ent_cell hhk 8 _ rfl; have k9 := ent_cell hhk 9 _ rfl; have k10 := ent_cell hhk 10 _ rfl; have k11 := ent_cell hhk 11 _ rfl
   have HHL := Lib.hid hL; have HHK := Lib.hid hhk
   clear hL hhk
   go_region_held3 (fun W => W.cell? ⟨k, 7, none⟩ = some (.int .u32 0) /\ W.cell? ⟨k, 8, none⟩ = some (.int .u32 0) /\ W.cell? ⟨k, 9, none⟩ = some (.int .u32 0) /\ W.cell? ⟨k, 10, none⟩ = some (.int .u32 0) /\ W.cell? ⟨k, 11, none⟩ = some (.string ⟨#[]⟩) /\ W.cell? ⟨L, 8, none⟩ = some (.int .u32 0) /\ W.frozen? ⟨L, 8, none⟩ = false /\ W.cell? ⟨L, 9, none⟩ = some (.int .u32 0) /\ W.frozen? ⟨L, 9, none⟩ = false /\ W.cell? ⟨L, 10, none⟩ = some (.int .u32 0) /\ W.frozen? ⟨L, 10, none⟩ = false /\ W.cell? ⟨L, 11, none⟩ = some (.int .u32 0) /\ W.frozen? ⟨L, 11, none⟩ = false /\ W.cell? ⟨L, 12, none⟩ = some (.string ⟨#[]⟩) /\ W.frozen? ⟨L, 12, none⟩ = false) (first | exact ⟨k7, k8, k9, k10, k11, l8, fr 8, l9, fr 9, l10, fr 10, l11, fr 11, l12, fr 12⟩ | go_keep | (simp only [E8, E9, E10, E11, E12]; exact ⟨k7, k8, k9, k10, k11, l8, fr 8, l9, fr 9, l10, fr 10, l11, fr 11, l12, fr 12⟩)) (fail)
   clear E8 E9 E10 E11 E12 k7 k8 k9 k10 k11 l8 l9 l10 l11 l12 fr
   go_wp2_with (first
    | (refine atStore 39 ?_; refine wpList_storeB rfl 39 _ _ rfl (b := w.heap.size) rfl _ _ 39 rfl r9.out (by kernel_rfl) (by rfl) (by rfl) ?_; intro w10 g1 g2 g3 g4)
    | (refine atLoad 39 ?_; refine wpList_loadB rfl 39 _ rfl (b := L) rfl _ 39 HHL.out (by kernel_rfl) (by kernel_rfl) ?_))
   refine bodyPost_ret (v := .agg _) (results_cell_row rfl _ _ w.heap.size 39 _ (0, 0) _ rfl g1 under39 rfl (by exact info39)) rfl ?_
   refine ⟨x, a, by unfold leafC; rw [HD.out], HT.out, ?_⟩
   have hb := HB9.out
   exact ((HW8.out.alloc HW8.out.size _).trans (hb.mono (by have := HW8.out.size; simp; omega))).drew.trans (g2 _ (Nat.le_refl _))
 | false =>
   have hmd : (if r.d then (2147484141 : Int) else 493) = 493 := by rw [hdir]; rfl
   have HMD := Lib.hid hmd; have HD := Lib.hid hdir
   have bt : bits .and .u32 493 134217728 = 0 := by decide
   clear hmd hdir
   go_enter Tryz.func72, Tryz.ntmps72
   go_wp2_with (first
    | (go_at_call 190; refine (sys_any _ b r _ (KE'.out _ (hw8.alloc hw8.size _))).mono ?_; rintro e w9 ⟨k, rfl, hk, hhk, hb9⟩; have hL := (hb9.block w7.heap.size (by show w7.heap.size < (w7.heap.push _).size; simp)).trans (heap_alloc_new w7 _))
    | (go_at_call 93; refine (regular_any false _).mono ?_; rintro e w8' ⟨rfl, rfl⟩)
    | (go_at_call 92; refine (unix_any _ _ _ _).mono ?_; rintro e w7 ⟨rfl, hb7⟩; have hw8 := hw7.trans (hb7.mono hw7.size))
    | (go_at_call 187; refine (modTime_any _ b r _ (KE'.out _ ((Below.refl _ _).alloc (Nat.le_refl _) _))).mono ?_; rintro e w6 ⟨x, a, rfl, ht, hb6⟩; have hw7 := ((Below.refl _ _).alloc (Nat.le_refl _) _).trans (hb6.mono (by simp)))
    | (go_at_call 67; refine (size_any _ b r _ (KE'.out _ ((Below.refl _ _).alloc (Nat.le_refl _) _)) hs).mono ?_; rintro e w5 ⟨rfl, rfl⟩)
    | (go_at_call 91; refine (bits_any false _).mono ?_; rintro e w4 ⟨rfl, rfl⟩)
    | (go_at_call 90; refine (isDir_any _ b r _ (KE'.out _ ((Below.refl _ _).alloc (Nat.le_refl _) _))).mono ?_; rintro e w3 ⟨rfl, rfl⟩; rw [HD.out])
    | (go_at_call 89; refine (name_any _ b F r (KE'.out _ ((Below.refl _ _).alloc (Nat.le_refl _) _)) (KF'.out _ ((Below.refl _ _).alloc (Nat.le_refl _) _)) hn).mono ?_; rintro e w2 ⟨rfl, rfl⟩)
    | (go_at_call 188; refine (mode_of _ b r _ _ (KE'.out _ ((Below.refl _ _).alloc (Nat.le_refl _) _)) HMD.out).mono ?_; rintro e w1 ⟨rfl, rfl⟩))
   obtain ⟨L, hLe⟩ : ∃ L, L = w7.heap.size := ⟨_, rfl⟩
   have hkL : L < k := by rw [hLe]; have := hk; simp at this; omega
   rw [<- hLe] at hL ⊢
   have HB9 := Lib.hid hb9; have HT := Lib.hid ht; have HLE := Lib.hid hLe; have HW8 := Lib.hid hw8
   have hsz6 : w.heap.size < w6.heap.size := by have := hb6.size; simp at this; omega
   have hsz7 : w.heap.size < w7.heap.size := Nat.lt_of_lt_of_le hsz6 hb7.size
   have r6 := (hb6.block w.heap.size (by simp)).trans (heap_alloc_new w _)
   have r7 := (hb7.block w.heap.size hsz6).trans r6
   have r9 := Lib.hid ((hb9.block w.heap.size (by simp; omega)).trans ((heap_alloc_old w7 _ hsz7).trans r7))
   clear r6 r7 hsz6
   clear hb9 hk hLe hb6 hb7 hw7 hw8 m1 m2 m3 m4 m5 m6 q205
   have l8 := ent_cell hL 8 _ rfl
   have l9 := ent_cell hL 9 _ rfl
   have l10 := ent_cell hL 10 _ rfl
   have l11 := ent_cell hL 11 _ rfl
   have l12 := ent_cell hL 12 _ rfl
   have fr := fun j => ent_frozen hL j
   have E8 : w9.setCell ⟨L, 8, none⟩ (.int .u32 0) = w9 := set_id hL rfl
   have E9 : w9.setCell ⟨L, 9, none⟩ (.int .u32 0) = w9 := set_id hL rfl
   have E10 : w9.setCell ⟨L, 10, none⟩ (.int .u32 0) = w9 := set_id hL rfl
   have E11 : w9.setCell ⟨L, 11, none⟩ (.int .u32 0) = w9 := set_id hL rfl
   have E12 : w9.setCell ⟨L, 12, none⟩ (.string ⟨#[]⟩) = w9 := set_id hL rfl
   have k7 := ent_cell hhk 7 _ rfl; have k8 := ent_cell hhk 8 _ rfl; have k9 := ent_cell hhk 9 _ rfl; have k10 := ent_cell hhk 10 _ rfl; have k11 := ent_cell hhk 11 _ rfl
   have HHL := Lib.hid hL; have HHK := Lib.hid hhk
   clear hL hhk
   go_region_held3 (fun W => W.cell? ⟨k, 7, none⟩ = some (.int .u32 0) /\ W.cell? ⟨k, 8, none⟩ = some (.int .u32 0) /\ W.cell? ⟨k, 9, none⟩ = some (.int .u32 0) /\ W.cell? ⟨k, 10, none⟩ = some (.int .u32 0) /\ W.cell? ⟨k, 11, none⟩ = some (.string ⟨#[]⟩) /\ W.cell? ⟨L, 8, none⟩ = some (.int .u32 0) /\ W.frozen? ⟨L, 8, none⟩ = false /\ W.cell? ⟨L, 9, none⟩ = some (.int .u32 0) /\ W.frozen? ⟨L, 9, none⟩ = false /\ W.cell? ⟨L, 10, none⟩ = some (.int .u32 0) /\ W.frozen? ⟨L, 10, none⟩ = false /\ W.cell? ⟨L, 11, none⟩ = some (.int .u32 0) /\ W.frozen? ⟨L, 11, none⟩ = false /\ W.cell? ⟨L, 12, none⟩ = some (.string ⟨#[]⟩) /\ W.frozen? ⟨L, 12, none⟩ = false) (first | exact ⟨k7, k8, k9, k10, k11, l8, fr 8, l9, fr 9, l10, fr 10, l11, fr 11, l12, fr 12⟩ | go_keep | (simp only [E8, E9, E10, E11, E12]; exact ⟨k7, k8, k9, k10, k11, l8, fr 8, l9, fr 9, l10, fr 10, l11, fr 11, l12, fr 12⟩)) (fail)
   clear E8 E9 E10 E11 E12 k7 k8 k9 k10 k11 l8 l9 l10 l11 l12 fr
   go_wp2_with (first
    | (refine atStore 39 ?_; refine wpList_storeB rfl 39 _ _ rfl (b := w.heap.size) rfl _ _ 39 rfl r9.out (by kernel_rfl) (by rfl) (by rfl) ?_; intro w10 g1 g2 g3 g4)
    | (refine atLoad 39 ?_; refine wpList_loadB rfl 39 _ rfl (b := L) rfl _ 39 HHL.out (by kernel_rfl) (by kernel_rfl) ?_))
   refine bodyPost_ret (v := .agg _) (results_cell_row rfl _ _ w.heap.size 39 _ (0, 0) _ rfl g1 under39 rfl (by exact info39)) rfl ?_
   refine ⟨x, a, by unfold leafC; rw [HD.out], HT.out, ?_⟩
   have hb := HB9.out
   exact ((HW8.out.alloc HW8.out.size _).trans (hb.mono (by have := HW8.out.size; simp; omega))).drew.trans (g2 _ (Nat.le_refl _))
end Go.Proofs.YtilgpaeeleknhaaGreatDoor
