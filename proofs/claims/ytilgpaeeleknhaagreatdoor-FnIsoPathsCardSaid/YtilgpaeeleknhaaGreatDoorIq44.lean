/-
  DERIVED. A part of the proof of laws.FnIsoPaths (for every input the law returns true and each argument reads as before; the listed variables read as listed when the call begins). It holds:
  · Walks: IsoStat.
  · Walks: roads.names, IsoList, and the two closures of FnIsoPaths.
-/
import Derived.Test.YtilgpaeeleknhaaGreatDoorIq40
section
namespace Go.Proofs.YtilgpaeeleknhaaGreatDoor
open Go Go.RowKit
set_option linter.unusedSimpArgs false
set_option linter.unusedVariables false
set_option maxRecDepth 1000000 in
set_option maxHeartbeats 4000000 in
theorem isoStat_hit (I n c pt li : Nat) (img vol : List UInt8) (r q : Rec) (ms : List Node) (ds : List Nat) (p : ByteArray) (w : World) (hrd : Rd w w.heap.size (.slice (some ⟨I, 0, none⟩) n c) img) (hn : img.length = n) (hI : IsoD img vol r pt li ms ds) (hq : q.name.size ≤ 1000) (hs : q.s < 4294967296)
    (h64 : ∀ F M D PT RD W, Below w.heap.size w W → FsW W F M D PT RD img ms ds → Calls Tryz.prog 64 #[PB F, .string p] W fun e w' => ∃ b, e = .returned (.tuple #[IB b, .nilIface]) ∧ EntAt w' b q (PB F) ∧ Below W.heap.size W w') :
    Calls Tryz.prog 18 #[.slice (some ⟨I, 0, none⟩) n c, .int .i64 2048, .string p] w fun e w' => ∃ x a, e = .returned (.tuple #[.agg (leafC p q.told q (wrap64 (x - 62135596800))).toArray, .bool true]) ∧ TimeOf q.t x a ∧ Below w.heap.size w w' := by
  have KR : ∀ W, Below w.heap.size w W → Rd W W.heap.size (.slice (some ⟨I, 0, none⟩) n c) img := fun W h => by
    obtain ⟨A, c', e1, e2, e3⟩ := hrd.keep h (Nat.le_refl _)
    exact ⟨A, c', e1, (fun ad ha => Nat.lt_of_lt_of_le (e2 ad ha) h.size), e3⟩
  have HKR := Lib.hid KR
  have H64 := Lib.hid h64
  have HI := Lib.hid hI
  clear hrd KR h64 hI
  go_enter Tryz.func18, Tryz.ntmps18
  go_wp2_with (first
    | (go_at_call 41; go_must (refine (one_hit F B p q w5 hF5.p hq hs (fun W h => H64.out F M D PT RD W (hbA5.trans (h.mono hbA5.size)) (hF5.later h))).mono ?_); rintro e w6 ⟨x, a, rfl, ht, hb6⟩; have r9 := Lib.hid ((hb6.block w.heap.size (Nat.lt_of_lt_of_le hlt hb35.size)).trans ((hb35.block w.heap.size hlt).trans r3)))
    | (go_at_call 36; go_must (refine (roads_any I n c pt li img vol r ms ds _ (HKR.out _ ((Below.refl _ _).alloc (Nat.le_refl _) _)) hn HI.out).mono ?_); rintro e w3 ⟨F, M, D, PT, RD, hF, hb3, B, hB, rfl⟩; have hlt : w.heap.size < w3.heap.size := Nat.lt_of_lt_of_le (by simp) hb3.size; have r3 := (hb3.block w.heap.size (by simp)).trans (heap_alloc_new w _); have r76 := heap_alloc_new w3 (.cells #[.nilFunc, .nilFunc, .nilFunc, .nilFunc] 76))
    | (refine atStore 76 ?_; refine wpList_storeB rfl 76 _ _ rfl (b := w3.heap.size) rfl _ _ 76 rfl r76 (by kernel_rfl) (by rfl) (by rfl) ?_; intro w5 g1 g2 g3 g4; have hb35 : Below w3.heap.size w3 w5 := ((Below.refl _ _).alloc (Nat.le_refl _) _).trans (g2 _ (Nat.le_refl _)); have hF5 := hF.later hb35; have hbA5 : Below w.heap.size w w5 := (((Below.refl w.heap.size w).alloc (Nat.le_refl _) _).trans (hb3.mono (by simp))).trans (hb35.mono (Nat.le_trans (by simp) hb3.size)))
    | (refine atLoad 76 ?_; refine wpList_loadB rfl 76 _ rfl (b := w3.heap.size) rfl _ 76 g1 (by kernel_rfl) (by kernel_rfl) ?_)
    | (refine atStore 39 ?_; refine wpList_storeB rfl 39 _ _ rfl (b := w.heap.size) rfl _ _ 39 rfl r9.out (by kernel_rfl) (by rfl) (by rfl) ?_; intro w10 j1 j2 j3 j4))
  refine bodyPost_ret (v := .tuple #[.agg (leafC p q.told q (wrap64 (x - 62135596800))).toArray, _]) (results_cell_row2 rfl _ _ w.heap.size 39 _ (0, 0) _ rfl j1 Tryz.underlying39 rfl (by kernel_rfl)) rfl ?_
  have hA : Below w.heap.size w w3 := ((Below.refl w.heap.size w).alloc (Nat.le_refl _) _).trans (hb3.mono (by simp))
  have hB5 := hA.trans (hb35.mono hA.size)
  have hC6 := hB5.trans (hb6.mono hB5.size)
  exact ⟨x, a, rfl, ht, hC6.trans (j2 _ (Nat.le_refl _))⟩
set_option maxRecDepth 1000000 in
set_option maxHeartbeats 4000000 in
theorem isoStat_no (I n c pt li : Nat) (img vol : List UInt8) (r : Rec) (ms : List Node) (ds : List Nat) (p : ByteArray) (w : World) (hrd : Rd w w.heap.size (.slice (some ⟨I, 0, none⟩) n c) img) (hn : img.length = n) (hI : IsoD img vol r pt li ms ds)
    (h64 : ∀ F M D PT RD W, Below w.heap.size w W → FsW W F M D PT RD img ms ds → Calls Tryz.prog 64 #[PB F, .string p] W fun e w' => ∃ b, e = .returned (.tuple #[.nilIface, .iface 188 (PB b)]) ∧ Below W.heap.size W w') :
    Calls Tryz.prog 18 #[.slice (some ⟨I, 0, none⟩) n c, .int .i64 2048, .string p] w fun e w' => (∃ l : List Value, l.length = 15 ∧ l.all (·.oneCell') = true ∧ e = .returned (.tuple #[.agg l.toArray, .bool false])) ∧ Below w.heap.size w w' := by
  have KR : ∀ W, Below w.heap.size w W → Rd W W.heap.size (.slice (some ⟨I, 0, none⟩) n c) img := fun W h => by
    obtain ⟨A, c', e1, e2, e3⟩ := hrd.keep h (Nat.le_refl _)
    exact ⟨A, c', e1, (fun ad ha => Nat.lt_of_lt_of_le (e2 ad ha) h.size), e3⟩
  have HKR := Lib.hid KR
  have H64 := Lib.hid h64
  have HI := Lib.hid hI
  clear hrd KR h64 hI
  go_enter Tryz.func18, Tryz.ntmps18
  go_wp2_with (first
    | (go_at_call 41; go_must (refine (one_no F B p w5 (fun W h => H64.out F M D PT RD W (hbA5.trans (h.mono hbA5.size)) (hF5.later h))).mono ?_); rintro e w6 ⟨⟨l, hl, hl1, rfl⟩, hb6⟩; have r9 := Lib.hid ((hb6.block w.heap.size (Nat.lt_of_lt_of_le hlt hb35.size)).trans ((hb35.block w.heap.size hlt).trans r3)))
    | (go_at_call 36; go_must (refine (roads_any I n c pt li img vol r ms ds _ (HKR.out _ ((Below.refl _ _).alloc (Nat.le_refl _) _)) hn HI.out).mono ?_); rintro e w3 ⟨F, M, D, PT, RD, hF, hb3, B, hB, rfl⟩; have hlt : w.heap.size < w3.heap.size := Nat.lt_of_lt_of_le (by simp) hb3.size; have r3 := (hb3.block w.heap.size (by simp)).trans (heap_alloc_new w _); have r76 := heap_alloc_new w3 (.cells #[.nilFunc, .nilFunc, .nilFunc, .nilFunc] 76))
    | (refine atStore 76 ?_; refine wpList_storeB rfl 76 _ _ rfl (b := w3.heap.size) rfl _ _ 76 rfl r76 (by kernel_rfl) (by rfl) (by rfl) ?_; intro w5 g1 g2 g3 g4; have hb35 : Below w3.heap.size w3 w5 := ((Below.refl _ _).alloc (Nat.le_refl _) _).trans (g2 _ (Nat.le_refl _)); have hF5 := hF.later hb35; have hbA5 : Below w.heap.size w w5 := (((Below.refl w.heap.size w).alloc (Nat.le_refl _) _).trans (hb3.mono (by simp))).trans (hb35.mono (Nat.le_trans (by simp) hb3.size)))
    | (refine atLoad 76 ?_; refine wpList_loadB rfl 76 _ rfl (b := w3.heap.size) rfl _ 76 g1 (by kernel_rfl) (by kernel_rfl) ?_)
    | (refine atStore 39 ?_; refine wpList_storeB rfl 39 _ _ rfl (b := w.heap.size) rfl l _ 39 rfl r9.out (by rw [hl]; kernel_rfl) (by rw [hl]; rfl) hl1 ?_; intro w10 j1 j2 j3 j4))
  refine bodyPost_ret (v := .tuple #[.agg l.toArray, _]) (results_cell_row2 rfl _ _ w.heap.size 39 _ (0, 0) _ rfl j1 Tryz.underlying39 rfl (by rw [List.size_toArray, hl]; kernel_rfl)) rfl ?_
  have hA : Below w.heap.size w w3 := ((Below.refl w.heap.size w).alloc (Nat.le_refl _) _).trans (hb3.mono (by simp))
  have hB5 := hA.trans (hb35.mono hA.size)
  have hC6 := hB5.trans (hb6.mono hB5.size)
  exact ⟨⟨l, hl, hl1, rfl⟩, hC6.trans (j2 _ (Nat.le_refl _))⟩
end Go.Proofs.YtilgpaeeleknhaaGreatDoor
end

section
namespace Go.Proofs.YtilgpaeeleknhaaGreatDoor
open Go Go.RowKit
set_option linter.unusedSimpArgs false
set_option linter.unusedVariables false
set_option maxRecDepth 1000000 in
set_option maxHeartbeats 4000000 in
theorem names_any (F B : Nat) (p : ByteArray) (rs : List Rec) (w : World) (hF : FsP w F false) (hrl : rs.length ≤ 1000) (hnm : ∀ r ∈ rs, r.name.size ≤ 1000)
    (h63 : ∀ W, Below w.heap.size w W → Calls Tryz.prog 63 #[PB F, .string p] W fun e w' => ListR W w' F rs e) :
    Calls Tryz.prog 42 #[RoadsV F B, .string p] w fun e w' => ∃ A co, e = .returned (.tuple #[.slice A rs.length co, .bool true]) ∧ w'.ownsRow w.heap.size 9 1 (.slice A rs.length co) rs.length (rs.map fun r => .string r.told) ∧ Below w.heap.size w w' := by
  have H63 := Lib.hid h63; have HN := Lib.hid hnm
  have HK := Lib.hid (fun W (h : Below w.heap.size w W) => hF.later h)
  clear h63 hF hnm
  go_enter Tryz.func42, Tryz.ntmps42
  go_wp2_with (first
    | (go_at_call 63; refine (H63.out _ ((Below.refl _ _).alloc (Nat.le_refl _) _)).mono ?_; rintro e w5 ⟨A5, c5, bs, rfl, hO5, hE5, hB5, hb5⟩; have HO5 := Lib.hid hO5; have HE5 := Lib.hid hE5; clear hO5 hE5 hB5))
  have hbw5 : Below w.heap.size w w5 := ((Below.refl w.heap.size w).alloc (Nat.le_refl _) _).trans (hb5.mono (by simp))
  clear hb5
  go_loopw [4, 19] (fun ov iv wr => ∃ (t : Nat) (A : Option Addr) (co : Nat), t ≤ rs.length ∧ iv = .int .i64 t ∧ ov = .slice A t co ∧ Hid (wr.ownsRow w5.heap.size 9 1 (.slice A t co) t ((rs.take t).map fun r => Value.string r.told)) ∧ Below w5.heap.size w5 wr) (fun _ iv _ => rs.length - (intOf iv).toNat)
  case atStart => exact ⟨0, none, 0, Nat.zero_le _, rfl, rfl, World.ownsRow_nil _ _ _ _, Below.refl _ _⟩
  case round =>
    obtain ⟨t, A, co, ht, rfl, rfl, hO, hb⟩ := hrel
    by_cases hlt : t < rs.length
    · obtain ⟨x, hx⟩ : ∃ x, rs[t]? = some x := ⟨_, List.getElem?_eq_getElem hlt⟩
      obtain ⟨g5, rfl, _, hg5, hc5⟩ := row_addr HO5.out (by omega)
      have htb : t < bs.length := by rw [HE5.out.1]; exact hlt
      obtain ⟨bt, hbt⟩ : ∃ bt, bs[t]? = some bt := ⟨_, List.getElem?_eq_getElem htb⟩
      have hp1 := hc5 t (IB bt) (by rw [List.getElem?_map, hbt]; rfl)
      rw [← hb.cell (p := ⟨g5, t, none⟩) hg5] at hp1
      have hEt := (HE5.out.2 t bt x hbt hx).later hb
      have f11 := (HK.out _ (hbw5.trans (hb.mono hbw5.size))).sus
      have m1 := method_Name ⟨bt, 0, none⟩
      have htk : rs.take (t + 1) = rs.take t ++ [x] := by
        rw [← List.take_append_getElem hlt]; congr 2
        rw [List.getElem?_eq_getElem hlt] at hx; simpa using hx
      have hns := HN.out x (List.mem_of_getElem? hx)
      have hlen : t = ((rs.take t).map fun r => Value.string r.told).length := by rw [List.length_map, List.length_take]; omega
      have HTK := Lib.hid htk; have HET := Lib.hid hEt; have HLE := Lib.hid hlen
      have hsz := hb.size
      clear htk hx hEt hbt hc5 hlen
      go_wp2_with (first
        | (at_builtin; refine asList rfl fun KK hKK => ?_; refine go_appV (w := wr) under43 info9 (by decide) (.tmp 23) (.tmp 26) rfl w5.heap.size wr.heap.size t A co ((rs.take t).map fun r => Value.string r.told) (.string x.told) HLE.out rfl hO.out ((Below.refl _ _).alloc (Nat.le_refl _) _) (by show (wr.heap.push _)[wr.heap.size]? = _; rw [Array.getElem?_push_size]) rfl rfl rfl (by omega) hsz ?_; intro A3 c3 w3 hO3 hb3 hg3; refine hKK _ _ ?_; clear hKK KK)
        | (go_at_call 89; refine (name_any _ bt F x HET.out f11 hns).mono ?_; rintro e w6 ⟨rfl, h6⟩; have h6' := h6.symm; subst h6'))
      go_roundw
      case rel =>
        refine ⟨t + 1, A3, c3, hlt, by simp, rfl, ?_, hb.trans hb3⟩
        unfold Hid; rw [HTK.out, List.map_append]; exact hO3
      case measure => simp [intOf]; omega
    · have hte : t = rs.length := by omega
      subst hte
      go_wp2_with (fail)
      go_quiet (fail)
      go_wp2
      go_ret2
      have hO := hO.out
      rw [List.take_length] at hO
      exact ⟨A, co, rfl, row_lower hO hbw5.size, below_drewN (hbw5.trans (hb.mono hbw5.size)) _⟩
set_option maxRecDepth 1000000 in
set_option maxHeartbeats 4000000 in
theorem names_no (F B : Nat) (p : ByteArray) (w : World)
    (h63 : ∀ W, Below w.heap.size w W → Calls Tryz.prog 63 #[PB F, .string p] W fun e w' => (∃ b, e = .returned (.tuple #[.slice none 0 0, .iface 214 (PB b)])) ∧ Below W.heap.size W w') :
    Calls Tryz.prog 42 #[RoadsV F B, .string p] w fun e w' => e = .returned (.tuple #[.slice none 0 0, .bool false]) ∧ Below w.heap.size w w' := by
  have H63 := Lib.hid h63
  clear h63
  go_enter Tryz.func42, Tryz.ntmps42
  go_wp2_with (first
    | (go_at_call 63; refine (H63.out _ ((Below.refl _ _).alloc (Nat.le_refl _) _)).mono ?_; rintro e w5 ⟨⟨b5, rfl⟩, hb5⟩))
  have hbw5 : Below w.heap.size w w5 := ((Below.refl w.heap.size w).alloc (Nat.le_refl _) _).trans (hb5.mono (by simp))
  refine wp_loop_rounds 1 ?_
  rw [rounds_succ]
  go_wp2_with (fail)
  go_quiet (fail)
  go_wp2
  go_ret2
  exact ⟨rfl, below_drewN hbw5 _⟩
set_option maxRecDepth 1000000 in
set_option maxHeartbeats 4000000 in
theorem isoList_hit (I n c pt li : Nat) (img vol : List UInt8) (r : Rec) (rs : List Rec) (ms : List Node) (ds : List Nat) (p : ByteArray) (w : World) (hrd : Rd w w.heap.size (.slice (some ⟨I, 0, none⟩) n c) img) (hn : img.length = n) (hI : IsoD img vol r pt li ms ds) (hrl : rs.length ≤ 1000) (hnm : ∀ r ∈ rs, r.name.size ≤ 1000)
    (h63 : ∀ F M D PT RD W, Below w.heap.size w W → FsW W F M D PT RD img ms ds → Calls Tryz.prog 63 #[PB F, .string p] W fun e w' => ListR W w' F rs e) :
    Calls Tryz.prog 20 #[.slice (some ⟨I, 0, none⟩) n c, .int .i64 2048, .string p] w fun e w' => ∃ A co, e = .returned (.tuple #[.slice A rs.length co, .bool true]) ∧ w'.ownsRow w.heap.size 9 1 (.slice A rs.length co) rs.length (rs.map fun r => .string r.told) ∧ Below w.heap.size w w' := by
  have HRD := Lib.hid hrd
  have H63 := Lib.hid h63; have HN := Lib.hid hnm
  have HI := Lib.hid hI
  clear hrd h63 hI hnm
  go_enter Tryz.func20, Tryz.ntmps20
  go_wp2_with (first
    | (go_at_call 42; go_must (refine (names_any F B p rs w5 hF5.p hrl HN.out (fun W h => H63.out F M D PT RD W (hbA5.trans (h.mono hbA5.size)) (hF5.later h))).mono ?_); rintro e w6 ⟨A6, c6, rfl, hO6, hb6⟩; have HO6 := Lib.hid hO6; clear hO6)
    | (go_at_call 36; go_must (refine (roads_any I n c pt li img vol r ms ds _ HRD.out hn HI.out).mono ?_); rintro e w3 ⟨F, M, D, PT, RD, hF, hb3, B, hB, rfl⟩; have r76 := heap_alloc_new w3 (.cells #[.nilFunc, .nilFunc, .nilFunc, .nilFunc] 76))
    | (refine atStore 76 ?_; refine wpList_storeB rfl 76 _ _ rfl (b := w3.heap.size) rfl _ _ 76 rfl r76 (by kernel_rfl) (by rfl) (by rfl) ?_; intro w5 g1 g2 g3 g4; have hb35 : Below w3.heap.size w3 w5 := ((Below.refl _ _).alloc (Nat.le_refl _) _).trans (g2 _ (Nat.le_refl _)); have hF5 := hF.later hb35; have hbA5 : Below w.heap.size w w5 := hb3.trans (hb35.mono hb3.size))
    | (refine atLoad 76 ?_; refine wpList_loadB rfl 76 _ rfl (b := w3.heap.size) rfl _ 76 g1 (by kernel_rfl) (by kernel_rfl) ?_))
  go_ret2
  exact ⟨A6, c6, rfl, row_lower HO6.out hbA5.size, hbA5.trans (hb6.mono hbA5.size)⟩
set_option maxRecDepth 1000000 in
set_option maxHeartbeats 4000000 in
theorem isoList_no (I n c pt li : Nat) (img vol : List UInt8) (r : Rec) (ms : List Node) (ds : List Nat) (p : ByteArray) (w : World) (hrd : Rd w w.heap.size (.slice (some ⟨I, 0, none⟩) n c) img) (hn : img.length = n) (hI : IsoD img vol r pt li ms ds)
    (h63 : ∀ F M D PT RD W, Below w.heap.size w W → FsW W F M D PT RD img ms ds → Calls Tryz.prog 63 #[PB F, .string p] W fun e w' => (∃ b, e = .returned (.tuple #[.slice none 0 0, .iface 214 (PB b)])) ∧ Below W.heap.size W w') :
    Calls Tryz.prog 20 #[.slice (some ⟨I, 0, none⟩) n c, .int .i64 2048, .string p] w fun e w' => e = .returned (.tuple #[.slice none 0 0, .bool false]) ∧ Below w.heap.size w w' := by
  have HRD := Lib.hid hrd
  have H63 := Lib.hid h63
  have HI := Lib.hid hI
  clear hrd h63 hI
  go_enter Tryz.func20, Tryz.ntmps20
  go_wp2_with (first
    | (go_at_call 42; go_must (refine (names_no F B p w5 (fun W h => H63.out F M D PT RD W (hbA5.trans (h.mono hbA5.size)) (hF5.later h))).mono ?_); rintro e w6 ⟨rfl, hb6⟩)
    | (go_at_call 36; go_must (refine (roads_any I n c pt li img vol r ms ds _ HRD.out hn HI.out).mono ?_); rintro e w3 ⟨F, M, D, PT, RD, hF, hb3, B, hB, rfl⟩; have r76 := heap_alloc_new w3 (.cells #[.nilFunc, .nilFunc, .nilFunc, .nilFunc] 76))
    | (refine atStore 76 ?_; refine wpList_storeB rfl 76 _ _ rfl (b := w3.heap.size) rfl _ _ 76 rfl r76 (by kernel_rfl) (by rfl) (by rfl) ?_; intro w5 g1 g2 g3 g4; have hb35 : Below w3.heap.size w3 w5 := ((Below.refl _ _).alloc (Nat.le_refl _) _).trans (g2 _ (Nat.le_refl _)); have hF5 := hF.later hb35; have hbA5 : Below w.heap.size w w5 := hb3.trans (hb35.mono hb3.size))
    | (refine atLoad 76 ?_; refine wpList_loadB rfl 76 _ rfl (b := w3.heap.size) rfl _ 76 g1 (by kernel_rfl) (by kernel_rfl) ?_))
  go_ret2
  exact ⟨rfl, hbA5.trans (hb6.mono hbA5.size)⟩
end Go.Proofs.YtilgpaeeleknhaaGreatDoor
end
