/- A part of the proof of laws.FnIsoRock (see the last text). -/
import Derived.Test.YtilgpaeeleknhaaGreatDoorJr22
import Derived.Test.YtilgpaeeleknhaaGreatDoorJr07
set_option linter.unusedSimpArgs false
set_option linter.unusedVariables false
set_option maxRecDepth 1000000
set_option maxHeartbeats 8000000
namespace Go.Proofs.YtilgpaeeleknhaaGreatDoor
open Go Go.RowKit
theorem results_cell_row2 {P : Program} {fn : Func} {p u : Tmp} {ty : TypeId} (h : fn.results = #[.cell p ty, .tmp u]) (tmps : Array Value) (w : World) (g : Nat) (t : TypeId) (cs : Array Value) (fr : Nat × Nat) (d : TypeDesc)
 (hp : tmps.getD p undef = .pointer (some ⟨g, 0, none⟩)) (hg : w.heap[g]? = some (.cells cs t fr))
 (hu : P.underlying ty = some d) (hd : (match d with | .struct _ | .array _ _ => true | _ => false) = true) (hi : (P.info? ty).map (·.size) = some cs.size) :
 (results fn tmps).run P w = .ok (.tuple #[.agg cs, tmps.getD u undef]) w := by
 have hp' : tmps[p]?.getD undef = .pointer (some ⟨g, 0, none⟩) := by simpa using hp
 simp [results, h, hp', asAddr, run_loadVar_row w g t ty cs fr d hg hu hd hi]
theorem daysJan (y : Int) (w : World) : Calls Tryz.prog 141 #[.int .i64 y, .int .i64 1] w fun e w' => e = .returned (.int .i64 31) /\ w' = w := by
 go_enter Tryz.func141, Tryz.ntmps141
 go_wp2
 go_ret
 exact ⟨rfl, rfl⟩
def SrcO (w : World) (D o : Nat) (l : List UInt8) : Prop := D < w.heap.size /\ ∀ (j : Nat) (b : UInt8), l[j]? = some b -> w.cell? ⟨D, o + j, none⟩ = some (BV b)
theorem SrcO.later {w w' : World} {D o : Nat} {l : List UInt8} (h : SrcO w D o l) (hb : Below w.heap.size w w') : SrcO w' D o l :=
 ⟨Nat.lt_of_lt_of_le h.1 hb.size, fun j b hj => by rw [hb.cell (p := ⟨D, o + j, none⟩) h.1]; exact h.2 j b hj⟩
theorem SrcO.rd {w : World} {D o k n c : Nat} {l m : List UInt8} (h : SrcO w D o l) (hm : m.length = n) (hl : ∀ j, j < n -> l[k + j]? = m[j]?) : RdO w (fun _ => True) (.slice (some ⟨D, o + k, none⟩) n c) m := by
 refine ⟨_, _, by rw [hm], fun ad _ => trivial, fun j u hu => ⟨_, rfl, ?_⟩⟩
 have hj : j < m.length := by have := (List.getElem?_eq_some_iff.1 hu).1; rwa [length_BVs] at this
 rw [BVs_get _ _ hj] at hu
 cases hu
 rw [Addr.add_mid, Nat.add_assoc]
 refine h.2 (k + j) _ ?_
 rw [hl j (by omega), List.getElem?_eq_getElem hj]
theorem blk_cell {w : World} {b : Nat} {cs : List Value} {t : TypeId} (h : w.heap[b]? = some (.cells cs.toArray t)) (k : Nat) (v : Value) (hv : cs[k]? = some v) : w.cell? ⟨b, k, none⟩ = some v := by
 simp only [World.cell?, h]
 simpa using hv
theorem tcells3 {w : World} {k : Nat} {x y z : Value} {ty : TypeId} (h : w.heap[k]? = some (.cells #[x, y, z] ty)) : w.cell? ⟨k, 0, none⟩ = some x /\ w.cell? ⟨k, 1, none⟩ = some y /\ w.cell? ⟨k, 2, none⟩ = some z := by
 simp [World.cell?, h]
theorem tfrozen3 {w : World} {k : Nat} {x y z : Value} {ty : TypeId} (h : w.heap[k]? = some (.cells #[x, y, z] ty)) : w.frozen? ⟨k, 0, none⟩ = false /\ w.frozen? ⟨k, 1, none⟩ = false /\ w.frozen? ⟨k, 2, none⟩ = false := by
 simp [World.frozen?, h]
theorem three_keep {w : World} {K g j : Nat} {x y z v : Value} (h : w.cell? ⟨g, j, none⟩ = some v) (hne : g ≠ K) : (((w.setCell ⟨K, 0, none⟩ x).setCell ⟨K, 1, none⟩ y).setCell ⟨K, 2, none⟩ z).cell? ⟨g, j, none⟩ = some v := by
 simp only [World.cell?] at h ⊢
 rw [heap_setCell_other _ _ _ _ (by exact hne), heap_setCell_other _ _ _ _ (by exact hne), heap_setCell_other _ _ _ _ (by exact hne)]
 exact h
theorem numbers_tim (w1 : World) (N : Nat) (hN : w1.heap.size = N) : Calls Tryz.prog 140 #[.slice (some ⟨N, 0, none⟩) 7 7] (w1.alloc (.cells #[SV [50, 48, 50, 48], SV [48, 49], SV [48, 49], SV [48, 48], SV [48, 48], SV [48, 48], SV [48, 48]] 9)) fun e w' => ∃ A co, e = .returned (.tuple #[.slice A 7 co, .bool true]) /\ w'.ownsRow (w1.heap.size + 1) 3 1 (.slice A 7 co) 7 [IV 2020, IV 1, IV 1, IV 0, IV 0, IV 0, IV 0] /\ Below (w1.heap.size + 1) (w1.alloc (.cells #[SV [50, 48, 50, 48], SV [48, 49], SV [48, 49], SV [48, 48], SV [48, 48], SV [48, 48], SV [48, 48]] 9)) w' := by
 subst hN
 have hh : (w1.alloc (.cells ([SV [50, 48, 50, 48], SV [48, 49], SV [48, 49], SV [48, 48], SV [48, 48], SV [48, 48], SV [48, 48]] : List Value).toArray 9)).heap[w1.heap.size]? = _ := heap_alloc_new w1 _
 have hsz : (w1.alloc (.cells ([SV [50, 48, 50, 48], SV [48, 49], SV [48, 49], SV [48, 48], SV [48, 48], SV [48, 48], SV [48, 48]] : List Value).toArray 9)).heap.size = w1.heap.size + 1 := by simp
 have := numbers_any w1.heap.size 7 7 [[50, 48, 50, 48], [48, 49], [48, 49], [48, 48], [48, 48], [48, 48], [48, 48]] (w1.alloc (.cells ([SV [50, 48, 50, 48], SV [48, 49], SV [48, 49], SV [48, 48], SV [48, 48], SV [48, 48], SV [48, 48]] : List Value).toArray 9)) rfl (by decide) (by rw [hsz]; omega) (fun j s hj => blk_cell hh j _ (by
  match j, hj with
  | 0, hj | 1, hj | 2, hj | 3, hj | 4, hj | 5, hj | 6, hj => simp at hj; subst hj; rfl
  | j + 7, hj => simp at hj)) (by decide)
 rw [hsz] at this
 exact this
theorem decBytes_any (D o c : Nat) (w : World) (hc : 17 <= c) (hs : SrcO w D o tim17) :
 Calls Tryz.prog 119 #[.slice (some ⟨D, o, none⟩) 17 c] w fun e w' => (∃ x a, e = .returned (.tuple #[.agg #[.int .i64 x, .int .i64 0, .int .i64 a], .nilIface])) /\ Below w.heap.size w w' := by
 have KS : ∀ W, Below w.heap.size w W -> SrcO W D o tim17 := fun W h => hs.later h
 have HK := Lib.hid KS
 have hw1 := (Below.refl w.heap.size w).alloc (Nat.le_refl _) (.cells #[.int .i64 0, .int .i64 0, .int .i64 0] 160)
 have hs1 := Lib.hid (KS _ hw1)
 have k16 : (w.alloc (.cells #[.int .i64 0, .int .i64 0, .int .i64 0] 160)).cell? ⟨D, o + 16, none⟩ = some (.int .u8 0) := hs1.out.2 16 0 rfl
 have z1 : (16 : Int) <= (c : Int) := by omega
 have r0 := Lib.hid (hs1.out.rd (k := 0) (n := 4) (c := c) (m := [50, 48, 50, 48]) rfl (by decide))
 have r1 := Lib.hid (hs1.out.rd (k := 4) (n := 2) (c := c - 4) (m := [48, 49]) rfl (by decide))
 have r2 := Lib.hid (hs1.out.rd (k := 6) (n := 2) (c := c - 6) (m := [48, 49]) rfl (by decide))
 have r3 := Lib.hid (hs1.out.rd (k := 8) (n := 2) (c := c - 8) (m := [48, 48]) rfl (by decide))
 have r4 := Lib.hid (hs1.out.rd (k := 10) (n := 2) (c := c - 10) (m := [48, 48]) rfl (by decide))
 have r5 := Lib.hid (hs1.out.rd (k := 12) (n := 2) (c := c - 12) (m := [48, 48]) rfl (by decide))
 have r6 := Lib.hid (hs1.out.rd (k := 14) (n := 2) (c := c - 14) (m := [48, 48]) rfl (by decide))
 have y1 : ¬ c = 4 := by omega
 have y2 : ¬ c = 6 := by omega
 have y3 : ¬ c = 8 := by omega
 have y4 : ¬ c = 10 := by omega
 have y5 : ¬ c = 12 := by omega
 have y6 : ¬ c = 14 := by omega
 clear KS hs
 go_enter Tryz.func119, Tryz.ntmps119
 go_upto_region 9 with (refine atConvert 27 9 ?_; refine asList rfl fun KK hKK => ?_; first
  | (refine wp_toStr (.tmp 15) rfl (fun _ => True) _ [50, 48, 50, 48] rfl r0.out ?_; refine hKK _ _ ?_; clear hKK KK)
  | (refine wp_toStr (.tmp 18) rfl (fun _ => True) _ [48, 49] rfl r1.out ?_; refine hKK _ _ ?_; clear hKK KK)
  | (refine wp_toStr (.tmp 21) rfl (fun _ => True) _ [48, 49] rfl r2.out ?_; refine hKK _ _ ?_; clear hKK KK)
  | (refine wp_toStr (.tmp 24) rfl (fun _ => True) _ [48, 48] rfl r3.out ?_; refine hKK _ _ ?_; clear hKK KK)
  | (refine wp_toStr (.tmp 27) rfl (fun _ => True) _ [48, 48] rfl r4.out ?_; refine hKK _ _ ?_; clear hKK KK)
  | (refine wp_toStr (.tmp 30) rfl (fun _ => True) _ [48, 48] rfl r5.out ?_; refine hKK _ _ ?_; clear hKK KK)
  | (refine wp_toStr (.tmp 33) rfl (fun _ => True) _ [48, 48] rfl r6.out ?_; refine hKK _ _ ?_; clear hKK KK))
 clear y1 y2 y3 y4 y5 y6 r0 r1 r2 r3 r4 r5 r6 k16
 go_upto_region 10 with (first
  | (go_at_call 140; refine (numbers_tim _ _ (by simp)).mono ?_; rintro e w2 ⟨A, co, rfl, hO, hb2⟩))
 obtain ⟨gn, rfl, hgn1, hgn, hcn⟩ := row_addr hO (by decide)
 have n0 : w2.cell? ⟨gn, 0, none⟩ = some (.int .i64 2020) := hcn 0 _ rfl
 have n1 : w2.cell? ⟨gn, 1, none⟩ = some (.int .i64 1) := hcn 1 _ rfl
 have n2 : w2.cell? ⟨gn, 2, none⟩ = some (.int .i64 1) := hcn 2 _ rfl
 have n3 : w2.cell? ⟨gn, 3, none⟩ = some (.int .i64 0) := hcn 3 _ rfl
 have n4 : w2.cell? ⟨gn, 4, none⟩ = some (.int .i64 0) := hcn 4 _ rfl
 have n5 : w2.cell? ⟨gn, 5, none⟩ = some (.int .i64 0) := hcn 5 _ rfl
 have n6 : w2.cell? ⟨gn, 6, none⟩ = some (.int .i64 0) := hcn 6 _ rfl
 have HO := Lib.hid hO; have HCN := Lib.hid hcn
 clear hO hcn
 go_quiet ((go_at_call 141; refine Calls.quiet_of_same (daysJan _ _)))
 have hKne : gn ≠ w.heap.size := by have := hgn1; simp at this; omega
 obtain ⟨K, hK⟩ : ∃ K, K = w.heap.size := ⟨_, rfl⟩
 have hbK : w2.heap[K]? = some (.cells #[.int .i64 0, .int .i64 0, .int .i64 0] 160) := by
  rw [hK, hb2.block w.heap.size (by simp; omega), heap_alloc_old _ _ (by simp)]
  exact heap_alloc_new w _
 have hKl : K < w2.heap.size := (Array.getElem?_eq_some_iff.1 hbK).1
 have hw2 : Below w.heap.size w w2 := (hw1.alloc (by simp) _).trans (hb2.mono (by simp; omega))
 rw [<- hK] at hKne ⊢
 have HBK := Lib.hid hbK; have HKE := Lib.hid hK; have HW2 := Lib.hid hw2
 clear hbK hK hb2 hw1 hw2 hgn1
 go_upto_region 12 with (fail)
 go_region_held3 (fun W => W.cell? ⟨gn, 0, none⟩ = some (.int .i64 2020) /\ W.cell? ⟨gn, 1, none⟩ = some (.int .i64 1) /\ W.cell? ⟨gn, 2, none⟩ = some (.int .i64 1) /\ W.cell? ⟨gn, 3, none⟩ = some (.int .i64 0) /\ W.cell? ⟨gn, 4, none⟩ = some (.int .i64 0) /\ W.cell? ⟨gn, 5, none⟩ = some (.int .i64 0) /\ W.cell? ⟨gn, 6, none⟩ = some (.int .i64 0)) (first | exact ⟨n0, n1, n2, n3, n4, n5, n6⟩ | go_keep | exact ⟨p0, p1, p2, p3, p4, p5, p6⟩ | exact ⟨three_keep p0 hKne, three_keep p1 hKne, three_keep p2 hKne, three_keep p3 hKne, three_keep p4 hKne, three_keep p5 hKne, three_keep p6 hKne⟩) (first
  | (go_at_call 142; go_must (refine (date_some _ _ _ _ _ _ _ _).mono ?_); go_must (rintro e w3 ⟨⟨x, a, rfl⟩, hb3⟩); have p0 := (hb3.cell (p := ⟨gn, 0, none⟩) hgn).trans n0; have p1 := (hb3.cell (p := ⟨gn, 1, none⟩) hgn).trans n1; have p2 := (hb3.cell (p := ⟨gn, 2, none⟩) hgn).trans n2; have p3 := (hb3.cell (p := ⟨gn, 3, none⟩) hgn).trans n3; have p4 := (hb3.cell (p := ⟨gn, 4, none⟩) hgn).trans n4; have p5 := (hb3.cell (p := ⟨gn, 5, none⟩) hgn).trans n5; have p6 := (hb3.cell (p := ⟨gn, 6, none⟩) hgn).trans n6; have hk3 := (hb3.block K hKl).trans HBK.out; obtain ⟨j0, j1, j2⟩ := tcells3 hk3; obtain ⟨i0, i1, i2⟩ := tfrozen3 hk3; have HK3 := Lib.hid hk3; clear hk3))
 go_wp2_with (fail)
 refine bodyPost_ret (v := .tuple #[.agg #[_, _, _], _]) (results_cell_row2 rfl _ _ K 160 #[_, _, _] (0, 0) _ rfl (three_set HK3.out) Tryz.underlying160 rfl (by exact info160)) rfl ?_
 refine ⟨⟨_, _, rfl⟩, ?_⟩
 have hb := HW2.out
 have hKw : w.heap.size <= K := Nat.le_of_eq HKE.out.symm
 have h3 : Below w.heap.size w w3 := (below_drewN hb _).trans (hb3.mono (by exact hb.size))
 exact ((h3.setCell hKw _).setCell hKw _).setCell hKw _
end Go.Proofs.YtilgpaeeleknhaaGreatDoor
