/- A part of the proof of laws.FnIsoRock (see the last text). -/
import Derived.Test.YtilgpaeeleknhaaGreatDoorJr12
set_option linter.unusedSimpArgs false
set_option linter.unusedVariables false
set_option maxRecDepth 1000000
set_option maxHeartbeats 8000000
namespace Go.Proofs.YtilgpaeeleknhaaGreatDoor
open Go Go.RowKit
def OwnF (w : World) (B : Nat) (v : Value) (l : List UInt8) : Prop :=
 ∃ g cap cur lo hi, v = .slice (some ⟨g, 0, none⟩) l.length cap /\ B <= g /\ w.heap[g]? = some (.cells cur 5 (lo, hi)) /\ (∀ j, j < cap -> (lo <= j && j < hi) = false) /\ l.length <= cap /\ cap <= maxLen /\ cur.size = cap /\ cur.toList.take l.length = BVs l
theorem OwnF.cells {w : World} {B g cap n : Nat} {l : List UInt8} (h : OwnF w B (.slice (some ⟨g, 0, none⟩) n cap) l) (j : Nat) (u : Value) (hu : (BVs l)[j]? = some u) : w.cell? ⟨g, j, none⟩ = some u := by
 obtain ⟨g', cap', cur, lo, hi, hv, hb, hg, h1, h2, h3, h4, h5⟩ := h
 injection hv with e1 e2 e3
 injection e1 with e1; injection e1 with e1
 subst e1
 have hj : j < l.length := by
  have := (List.getElem?_eq_some_iff.1 hu).1
  rwa [length_BVs] at this
 rw [<- h5, List.getElem?_take, if_pos hj] at hu
 simp only [World.cell?, hg]
 simpa using hu
theorem OwnF.shape {w : World} {B : Nat} {v : Value} {l : List UInt8} (h : OwnF w B v l) : ∃ g c, v = .slice (some ⟨g, 0, none⟩) l.length c /\ B <= g /\ g < w.heap.size := by
 obtain ⟨g', cap', cur, lo, hi, hv, hb, hg, _⟩ := h
 exact ⟨g', cap', hv, hb, (Array.getElem?_eq_some_iff.1 hg).1⟩
theorem run_append_F {P : Program} {w : World} (h27 : P.underlying 27 = some (.slice 5)) (h5 : (P.info? 5).map (fun i => (i.zero, i.size, i.bytes)) = some (some (.int .u8 0), 1, 1)) (B : Nat) (v : Value) (l : List UInt8) (b : UInt8) (ty : TypeId) (ad : Addr) (c : Nat)
 (hown : OwnF w B v l) (hc : w.cell? ad = some (BV b)) (had : ad.add 0 = ad) (hlen : l.length + 1 <= 1000000000) (hB : B <= w.heap.size) :
 ∃ v' w', (Builtin.append_ #[27, 27] ty #[v, .slice (some ad) 1 c]).run P w = .ok v' w' /\ OwnF w' B v' (l ++ [b]) /\ Below B w w' := by
 obtain ⟨i, hi, hz, hsz, hby⟩ := info_parts h5
 obtain ⟨g, cap, cur, lo, hi', rfl, hbg, hg, hfr, hnc, hcm, hcs, htake⟩ := hown
 have hnews : ∀ j u, [BV b][j]? = some u -> w.cell? (ad.add j) = some u := by
  intro j u hu
  cases j with
  | zero => rw [had, hc]; simpa using hu
  | succ j => simp at hu
 by_cases hroom : l.length + 1 <= cap
 . have hf := run_firstCells_some (P := P) w i.size 1 ad 1 c [BV b] (by rw [hsz]; rfl) hnews
   rw [hsz] at hf
   have hcell : w.cell? ⟨g, l.length, none⟩ = some (cur[l.length]'(by omega)) := by
    have : l.length < cur.size := by omega
    simp [World.cell?, hg, this]
   have hfz : w.frozen? ⟨g, l.length, none⟩ = false := by
    simp only [World.frozen?, hg]
    exact hfr _ (by omega)
   have hst : (store ⟨g, l.length, none⟩ (BV b)).run P w = .ok () (w.setCell ⟨g, l.length, none⟩ (BV b)) := by
    rw [run_store P w _ _ _ rfl, hcell]
    simp [hfz]
   refine ⟨.slice (some ⟨g, 0, none⟩) (l.length + 1) cap, w.setCell ⟨g, l.length, none⟩ (BV b), ?_, ?_, (Below.refl _ _).setCell hbg _⟩
   . simp [Builtin.append_, run_underlying h27, sizeOf, typeInfo, hi, Builtin.lenOf, hroom, hf, Addr.add_lit, hsz, storeCells, hst]
   . refine ⟨g, cap, cur.setIfInBounds l.length (BV b), lo, hi', by rw [List.length_append]; rfl, hbg, ?_, hfr, by rw [List.length_append]; exact hroom, hcm, by simpa using hcs, ?_⟩
     . simp [World.setCell, Array.getElem?_modify, hg]
     . rw [List.length_append, Array.toList_setIfInBounds, BVs_append, List.length_singleton]
       have hlt : l.length < (cur.toList.set l.length (BV b)).length := by simp; omega
       rw [<- List.take_append_getElem hlt, List.getElem_set_self, List.take_set_of_le (Nat.le_refl _), htake]
       rfl
 . have holds : ∀ j u, (BVs l)[j]? = some u -> w.cell? ((⟨g, 0, none⟩ : Addr).add j) = some u := by
    intro j u hu
    rw [Addr.add_mid, Nat.zero_add]
    exact OwnF.cells (n := l.length) (cap := cap) ⟨g, cap, cur, lo, hi', rfl, hbg, hg, hfr, hnc, hcm, hcs, htake⟩ j u hu
   have hr := run_append_grow (P := P) w 27 ty 5 i (.int .u8 0) h27 hi hz ⟨g, 0, none⟩ l.length cap (BVs l) (by rw [length_BVs, hsz]; simp) holds ad 1 c [BV b] (by rw [hsz]; rfl) hnews (by omega) (by omega) (growslice_fits (by omega) (by rw [hby]; omega))
   have hge := grownCap_ge w (l.length + 1) cap 5
   have hcm2 : grownCap w (l.length + 1) cap 5 <= maxLen := grownCap_le_maxLen w (l.length + 1) cap 5 (by unfold maxLen; omega)
   refine ⟨_, _, hr, ⟨w.heap.size, _, _, 0, 0, by rw [List.length_append]; rfl, hB, heap_alloc_new w.drew _, by simp, by rw [List.length_append]; exact hge, hcm2, ?_, ?_⟩, ⟨rfl, rfl, rfl, by simp, fun k hk => heap_alloc_old w.drew _ (by have : w.drew.heap.size = w.heap.size := rfl; omega)⟩⟩
   . simp only [Array.size_append, List.size_toArray, size_zeroCells, length_BVs, List.length_singleton]
     have : (Value.int IntKind.u8 0).cells.size = 1 := rfl
     rw [this]; omega
   . rw [List.length_append, BVs_append]
     simp only [Array.toList_append, List.append_assoc]
     rw [<- List.append_assoc, List.take_append_of_le_length (by simp [length_BVs]), List.take_of_length_le (by simp [length_BVs])]
     rfl
theorem OwnF.conv (w : World) (s : ByteArray) (h : s.size <= 1000000000) : OwnF (Lib.bytesWorld w 5 s) w.heap.size (.slice (some ⟨w.heap.size, 0, none⟩) s.data.toList.length (grownCap w s.size 0 5)) s.data.toList := by
 have hge := grownCap_ge w s.size 0 5
 have hcm := grownCap_le_maxLen w s.size 0 5 (by unfold maxLen; omega)
 have hl : s.data.toList.length = s.size := by rw [Array.length_toList]; rfl
 have hsz : (Lib.bytesCells w 5 s).size = grownCap w s.size 0 5 := by
  simp only [Lib.bytesCells, Array.size_append, Array.size_map, Array.size_replicate]
  have : s.data.size = s.size := rfl
  omega
 refine ⟨w.heap.size, grownCap w s.size 0 5, _, _, _, rfl, Nat.le_refl _, Lib.bytesWorld_at_new w 5 s, ?_, by rw [hl]; exact hge, hcm, hsz, ?_⟩
 . intro j hj; rw [hsz]; simp; omega
 . simp only [Lib.bytesCells, Array.toList_append]
   rw [List.take_append_of_le_length (by simp), List.take_of_length_le (by simp)]
   simp [BVs, BV]
theorem wp_convF_of {P : Program} {o : Oper} {a : Act} {w : World} {K : Act -> World -> Prop} {Q : Exit -> Act -> World -> Prop} (h27 : P.underlying 27 = some (.slice 5)) (h5 : P.underlying 5 = some (.int .u8)) (h9 : P.underlying 9 = some .string)
 (x : Operand) (ho : o.op = .convert 9 27 x) (s : ByteArray) (n : Nat) (hn : n = s.size) (hs : s.size <= 1000000000)
 (hx : a.eval x = .string s) (hK : ∀ c w', OwnF w' w.heap.size (.slice (some ⟨w.heap.size, 0, none⟩) n c) s.data.toList -> Below w.heap.size w w' -> K (a.put o.dst (.slice (some ⟨w.heap.size, 0, none⟩) n c)) w') : Oper.wp P o a w K Q := by
 subst hn
 have hrun := Lib.run_convert_string_bytes (P := P) w 9 27 5 s h9 h27 h5
 unfold Oper.wp execOp
 simp only [ho, hx, Sem.run_bind, Sem.run_pure, Result.andThen_ok, hrun]
 have hc := OwnF.conv w s hs
 have hl : s.data.toList.length = s.size := by rw [Array.length_toList]; rfl
 rw [hl] at hc
 exact hK _ _ hc ⟨rfl, rfl, rfl, by rw [Lib.bytesWorld_size]; omega, fun k hk => Lib.bytesWorld_at_old w 5 s k hk⟩
abbrev wp_convF {o : Oper} {a : Act} {w : World} {K : Act -> World -> Prop} {Q : Exit -> Act -> World -> Prop} := @wp_convF_of Tryz.prog o a w K Q Tryz.underlying27 under5 Tryz.underlying9
theorem OwnF.later {w w' : World} {B : Nat} {v : Value} {l : List UInt8} (h : OwnF w B v l) (hb : Below w.heap.size w w') : OwnF w' B v l := by
 obtain ⟨g, cap, cur, lo, hi, hv, hbg, hg, rest⟩ := h
 exact ⟨g, cap, cur, lo, hi, hv, hbg, by rw [hb.block g (Array.getElem?_eq_some_iff.1 hg).1]; exact hg, rest⟩
theorem go_appF {o : Oper} {a : Act} {w wa : World} {K : Act -> World -> Prop} {Q : Exit -> Act -> World -> Prop} (s x : Operand) (ho : o.op = .call { callee := .builtin .append, args := #[s, x], argTypes := #[27, 27] })
 (B N n g c : Nat) (u : Value) (l : List UInt8) (b : UInt8) (hn : n = l.length) (hs : a.eval s = .slice (some ⟨g, 0, none⟩) n c) (hown : OwnF w B (.slice (some ⟨g, 0, none⟩) n c) l)
 (hwa : Below w.heap.size w wa) (hwc : wa.heap[w.heap.size]? = some (.cells #[u] 5)) (hN : w.heap.size = N) (hx : a.eval x = .slice (some ⟨N, 0, none⟩) 1 1) (hu : u = BV b) (hlen : n + 1 <= 1000000000) (hB : B <= w.heap.size)
 (h : ∀ g' c' w', OwnF w' B (.slice (some ⟨g', 0, none⟩) (n + 1) c') (l ++ [b]) -> Below B w w' -> K (a.put o.dst (.slice (some ⟨g', 0, none⟩) (n + 1) c')) w') :
 Oper.wp Tryz.prog o a wa K Q := by
 subst hN; subst hu; subst hn
 obtain ⟨v', w', hr, hO, hb⟩ := run_append_F (P := Tryz.prog) (w := wa) Tryz.underlying27 info5 B _ l b o.type ⟨w.heap.size, 0, none⟩ 1 (hown.later hwa) (by simp only [World.cell?, hwc]; rfl) rfl hlen (Nat.le_trans hB hwa.size)
 obtain ⟨g', c', rfl, _⟩ := hO.shape
 suffices hgoal : K (a.put o.dst (.slice (some ⟨g', 0, none⟩) (l ++ [b]).length c')) w' by
  unfold Oper.wp execOp
  simp only [ho, resolve, invoke, builtin, Sem.run_bind, Sem.run_pure, Result.andThen_ok, List.map_toArray, List.map_cons, List.map_nil, hs, hx, hr]
  exact hgoal
 have e : (l ++ [b]).length = l.length + 1 := by simp
 rw [e] at hO ⊢
 exact h g' c' w' hO ((hwa.mono hB).trans hb)
theorem padded_any (s : ByteArray) (n : Nat) (w : World) (hs : s.size <= n) (hn : n <= 100000) :
 Calls Tryz.prog 57 #[.string s, .int .i64 n] w fun e w' => ∃ g c, e = .returned (.slice (some ⟨g, 0, none⟩) n c) /\ OwnF w' w.heap.size (.slice (some ⟨g, 0, none⟩) n c) (s.data.toList ++ List.replicate (n - s.size) 32) /\ Below w.heap.size w w' := by
 go_enter Tryz.func57, Tryz.ntmps57
 go_wp2_with (refine atConvert 9 27 ?_; refine asList rfl fun KK hKK => ?_; go_must (refine wp_convF (.tmp 11) rfl s s.size rfl (by omega) rfl ?_); intro c1 w1 hO1 hb1; refine hKK _ _ ?_; clear hKK KK)
 go_loopw [5] (fun v wr => ∃ (m g c : Nat), s.size <= m /\ m <= n /\ v = .slice (some ⟨g, 0, none⟩) m c /\ OwnF wr w.heap.size (.slice (some ⟨g, 0, none⟩) m c) (s.data.toList ++ List.replicate (m - s.size) 32) /\ Below w.heap.size w wr) (fun v _ => n - (match v with | .slice _ m _ => m | _ => 0))
 case atStart => exact ⟨s.size, _, _, Nat.le_refl _, hs, rfl, by simpa using hO1, hb1⟩
 case round =>
  obtain ⟨m, g, c, hm1, hm2, rfl, hO, hb⟩ := hrel
  have hl : m = (s.data.toList ++ List.replicate (m - s.size) 32).length := by
   rw [List.length_append, List.length_replicate, Array.length_toList]
   have : s.data.size = s.size := rfl
   omega
  have HL := Lib.hid hl
  clear hl
  by_cases hlt : m < n
  . go_wp2_with (at_builtin; refine asList rfl fun KK hKK => ?_; go_must (refine go_appF (w := wr) (.tmp 17) (.tmp 18) rfl w.heap.size wr.heap.size m g c _ _ 32 HL.out rfl hO ((Below.refl _ _).alloc (Nat.le_refl _) _) (by show (wr.heap.push _)[wr.heap.size]? = _; rw [Array.getElem?_push_size]) rfl rfl (by rfl) (by omega) hb.size ?_); intro g2 c2 w2 hO2 hb2; refine hKK _ _ ?_; clear hKK KK)
    go_roundw
    case rel =>
     refine ⟨m + 1, g2, c2, by omega, hlt, rfl, ?_, hb.trans hb2⟩
     have e : m + 1 - s.size = m - s.size + 1 := by omega
     rw [e, List.replicate_succ', <- List.append_assoc]
     exact hO2
    case measure => simp; omega
  . have e : m = n := by omega
    subst e
    go_wp2_with (fail)
    go_ret
    exact ⟨g, c, rfl, hO, hb⟩
end Go.Proofs.YtilgpaeeleknhaaGreatDoor
