/-
  DERIVED. A part of the proof of laws.FnIsoPaths (for every input the law returns true and each argument reads as before; the listed variables read as listed when the call begins). It holds:
  · Walks: parsePathTable.
-/
import Derived.Test.YtilgpaeeleknhaaGreatDoorIq20
import Derived.Test.YtilgpaeeleknhaaGreatDoorIq24
import Derived.Test.YtilgpaeeleknhaaGreatDoorIq01
section
namespace Go.Proofs.YtilgpaeeleknhaaGreatDoor
open Go Go.RowKit
set_option linter.unusedSimpArgs false
set_option linter.unusedVariables false

/-- Bytes that lie from the head of block D on. -/
structure Src (w : World) (D : Nat) (l : List UInt8) : Prop where
  lt : D < w.heap.size
  cell : ∀ (j : Nat) (b : UInt8), l[j]? = some b → w.cell? ⟨D, j, none⟩ = some (BV b)
theorem Src.keep {w w' : World} {D : Nat} {l : List UInt8} (h : Src w D l) (hb : Below w.heap.size w w') : Src w' D l :=
  ⟨Nat.lt_of_lt_of_le h.lt hb.size, fun j b hj => by rw [hb.cell (p := ⟨D, j, none⟩) h.lt]; exact h.cell j b hj⟩
theorem leNat4 (n : Nat) (h : n < 4294967296) : Lib.leNat [putB n true 4 0, putB n true 4 1, putB n true 4 2, putB n true 4 3] = n := by
  simp only [Lib.leNat, putB, u8_toNat, if_true]
  simp only [Nat.reduceMul, Nat.reducePow]
  omega
theorem leNat2 (n : Nat) (h : n < 65536) : Lib.leNat [putB n true 2 0, putB n true 2 1] = n := by
  simp only [Lib.leNat, putB, u8_toNat, if_true]
  simp only [Nat.reduceMul, Nat.reducePow]
  omega
/-- An entry of the path table, parsed. -/
def ptE (ms : List Node) (d : Nat) : List Value :=
  [.int .u8 (pathId ms d).length, .int .u16 (8 + evn (pathId ms d).length), .int .u8 0, .int .u32 (nodeAt ms d).extent, .int .u16 (nodeAt ms (parOf ms d)).number, .string (ofL (pathId ms d))]
theorem bv_u8 (q : Nat) (h : q ≤ 255) : BV (u8 q) = .int .u8 q := by
  show Value.int .u8 ((u8 q).toNat : Int) = _; rw [u8_toNat, Nat.mod_eq_of_lt (by omega)]
theorem pathRec_0 (ms : List Node) (d q : Nat) (hq : (pathId ms d).length = q) : (pathRec ms true d)[0]? = some (u8 q) := by rw [← hq]; rfl
theorem pathRec_id (ms : List Node) (d j : Nat) (hj : j < (pathId ms d).length) : (pathRec ms true d)[8 + j]? = (pathId ms d)[j]? := by
  unfold pathRec
  rw [List.getElem?_append_left (by simp [putL_length]; omega), List.getElem?_append_right (by simp [putL_length])]
  congr 1
  simp [putL_length]
theorem info239 : (Tryz.prog.info? 239).map (fun i => (i.zero.map (·.cells.size), i.size, i.bytes)) = some (some 1, 1, 8) := by kernel_rfl
theorem under235 : Tryz.prog.underlying 235 = some (.slice 239) := by kernel_rfl

set_option maxRecDepth 100000 in
set_option maxHeartbeats 4000000 in
theorem parsePT_any (D n c : Nat) (ms : List Node) (ds : List Nat) (w : World) (hsrc : Src w D (pathsL ms true ds)) (hn : (pathsL ms true ds).length = n) (hnc : n ≤ c) (hnb : n ≤ 30000) (hdl : ds.length ≤ 100) (hid : ∀ d ∈ ds, 1 ≤ (pathId ms d).length ∧ (pathId ms d).length ≤ 200) (hex : ∀ d, (nodeAt ms d).extent < 4294967296) (hnu : ∀ d, (nodeAt ms d).number < 65536) :
    Calls Tryz.prog 79 #[.slice (some ⟨D, 0, none⟩) n c] w fun e w' => ∃ b bs A co, e = .returned (PB b) ∧ w'.heap[b]? = some (.cells #[.slice A ds.length co] 243) ∧ w'.ownsRow w.heap.size 239 1 (.slice A ds.length co) ds.length (bs.map PB) ∧ Boxes w' 241 bs (ds.map (ptE ms)) ∧ Below w.heap.size w w' := by
  have HS := Lib.hid hsrc; have HN := Lib.hid hn
  clear hsrc hn
  go_enter Tryz.func79, Tryz.ntmps79
  go_wp2_with (at_make; refine asList rfl fun KK hKK => ?_; refine go_makeV under235 info239 (by decide) (.const (.int .i64 0)) (.const (.int .i64 20)) rfl w.heap.size .i64 .i64 20 rfl rfl (by decide) (Nat.le_refl _) ?_; intro w1 hO1 hb1 hs1; refine hKK _ _ ?_; clear hKK KK)
  go_loopw [4, 5] (fun ev iv wr => ∃ (k i : Nat) (A : Option Addr) (co : Nat) (bs : List Nat), k ≤ ds.length ∧ iv = .int .i64 i ∧ Hid (i = (pathsL ms true (ds.take k)).length) ∧ ev = .slice A k co ∧ wr.ownsRow w.heap.size 239 1 (.slice A k co) k (bs.map PB) ∧ Hid (Boxes wr 241 bs ((ds.take k).map (ptE ms))) ∧ Below w.heap.size w wr) (fun _ iv _ => n - (intOf iv).toNat)
  case atStart => exact ⟨0, 0, _, _, [], by omega, rfl, rfl, rfl, hO1, Boxes.nil _ _, hb1⟩
  case round =>
    clear hO1 hb1 hs1
    obtain ⟨k, i, A, co, bs, hk, rfl, hi, rfl, hO, hB, hb⟩ := hrel
    by_cases hlt : k < ds.length
    · obtain ⟨d, hdd⟩ : ∃ d, ds.getD k 0 = d := ⟨_, rfl⟩
      have hdm : d ∈ ds := by rw [← hdd]; exact getD_mem hlt
      obtain ⟨hi1, hi2⟩ := hid d hdm
      obtain ⟨q, hq⟩ : ∃ q, (pathId ms d).length = q := ⟨_, rfl⟩
      have hex1 := hex d
      have hnu1 := hnu (parOf ms d)
      -- the entry's bytes
      have hstep := pathsL_step ms true ds k d hlt hdd
      obtain ⟨tl, htl⟩ : ∃ tl, pathsL ms true ds = pathsL ms true (ds.take k) ++ pathRec ms true d ++ tl := by
        refine ⟨pathsL ms true (ds.drop (k + 1)), ?_⟩
        rw [← hstep]
        unfold pathsL
        rw [← List.flatMap_append, List.take_append_drop]
      have hat : ∀ (j : Nat) (b : UInt8), (pathRec ms true d)[j]? = some b → w.cell? ⟨D, i + j, none⟩ = some (BV b) := by
        intro j b hj
        refine HS.out.cell (i + j) b ?_
        have hjl := (List.getElem?_eq_some_iff.1 hj).1
        rw [htl, hi.out, List.append_assoc, List.getElem?_append_right (by omega), List.getElem?_append_left (by omega)]
        rw [← hj]; congr 1; omega
      have hin : i + (pathRec ms true d).length ≤ n := by
        rw [← HN.out, htl, List.length_append, List.length_append, hi.out]; omega
      have hrl : (pathRec ms true d).length = 8 + evn q := by
        have := pathsL_length ms true [d]
        simp only [pathsL, List.flatMap_cons, List.flatMap_nil, List.append_nil, List.map_cons, List.map_nil, List.sum_cons, List.sum_nil, hq] at this
        omega
      rw [hrl] at hin
      rw [hq] at hi1 hi2
      have HAT : ∀ W : World, Below w.heap.size w W → ∀ (j : Nat) (b : UInt8), (pathRec ms true d)[j]? = some b → W.cell? ⟨D, i + j, none⟩ = some (BV b) := by
        intro W hW j b hj
        rw [hW.cell (p := ⟨D, i + j, none⟩) HS.out.lt]; exact hat j b hj
      have HAT' := Lib.hid HAT
      have RD : ∀ W : World, Below w.heap.size w W → RdO W (fun _ => True) (.slice (some ⟨D, i + 8, none⟩) q (c - (i + 8))) (pathId ms d) := by
        intro W hW
        refine ⟨_, _, by rw [hq], fun ad _ => trivial, fun j u hu => ⟨_, rfl, ?_⟩⟩
        have hj : j < (pathId ms d).length := by have := (List.getElem?_eq_some_iff.1 hu).1; rwa [length_BVs] at this
        rw [BVs_get _ _ hj] at hu
        cases hu
        rw [Addr.add_mid, Nat.add_assoc]
        refine HAT W hW (8 + j) _ ?_
        rw [pathRec_id ms d j hj, List.getElem?_eq_getElem hj]
      have RD' := Lib.hid RD
      clear RD
      obtain ⟨ex, hexe⟩ : ∃ ex, (nodeAt ms d).extent = ex := ⟨_, rfl⟩
      obtain ⟨nu, hnue⟩ : ∃ nu, (nodeAt ms (parOf ms d)).number = nu := ⟨_, rfl⟩
      obtain ⟨st, hst⟩ : ∃ st : ByteArray, ofL (pathId ms d) = st := ⟨_, rfl⟩
      have HSS := Lib.hid hst
      clear hst
      have HEX := Lib.hid hexe; have HNU := Lib.hid hnue
      clear hexe hnue
      have c0 : wr.cell? ⟨D, i, none⟩ = some (.int .u8 q) := by
        have := HAT'.out wr hb 0 _ (pathRec_0 ms d q hq)
        rw [bv_u8 q (by omega)] at this; exact this
      have c1 : wr.cell? ⟨D, i + 1, none⟩ = some (.int .u8 0) := HAT'.out wr hb 1 0 rfl
      have hev : evn q = if q % 2 = 1 then q + 1 else q := rfl
      have HI := Lib.hid hi; have HQ := Lib.hid hq; have HB := Lib.hid hB; have HDD := Lib.hid hdd; have HO := Lib.hid hO; have HIN := Lib.hid hin
      have hi6 : i + 8 ≤ n := by omega
      have HST := Lib.hid hstep; have HRL := Lib.hid hrl
      clear HAT hat hi hq hB hdd hO hstep htl hrl
      have hin2 : i + (8 + q) ≤ n := by unfold evn at hin; split at hin <;> omega
      clear hin
      by_cases hodd : q % 2 = 1
      · have hoI : ((q : Int) % 2 == 0) = false := by simp; omega
        have hoI2 : ((q : Int) % 2 != 0) = true := by simp; omega
        have y2 : IntKind.i64.wrap ((i : Int) + 2) = (i : Int) + 2 := by rw [IntKind.wrap_i64]; omega
        have y6 : IntKind.i64.wrap ((i : Int) + 6) = (i : Int) + 6 := by rw [IntKind.wrap_i64]; omega
        have y8 : IntKind.i64.wrap ((i : Int) + 8) = (i : Int) + 8 := by rw [IntKind.wrap_i64]; omega
        have t2 : ((i : Int) + 2).toNat = i + 2 := by omega
        have t6 : ((i : Int) + 6).toNat = i + 6 := by omega
        have t8 : ((i : Int) + 8).toNat = i + 8 := by omega
        have hc2 : ¬ c = i + 2 := by omega
        have hc6 : ¬ c = i + 6 := by omega
        have hd4 : i + 6 - (i + 2) = 4 := by omega
        have hd2 : i + 8 - (i + 6) = 2 := by omega
        have z1 : (0 : Int) ≤ (i : Int) + 2 := by omega
        have z2 : (i : Int) + 2 ≤ (i : Int) + 6 := by omega
        have z3 : (i : Int) + 6 ≤ (c : Int) := by omega
        have z4 : (0 : Int) ≤ (i : Int) + 6 := by omega
        have z5 : (i : Int) + 6 ≤ (i : Int) + 8 := by omega
        have z6 : (i : Int) + 8 ≤ (c : Int) := by omega
        go_wp2_with (fail)
        go_region_held3 (fun _ => True) (trivial) (first
          | (go_at_call 100; go_must (refine (Tryz.binary_LE_Uint32 D (i + 2) 4 _ _ _ _ _ _ (by decide) (HAT'.out _ (hb.trans (Below.refl _ _).drew) 2 _ rfl) (HAT'.out _ (hb.trans (Below.refl _ _).drew) 3 _ rfl) (HAT'.out _ (hb.trans (Below.refl _ _).drew) 4 _ rfl) (HAT'.out _ (hb.trans (Below.refl _ _).drew) 5 _ rfl)).mono ?_); go_must (rintro e w2 ⟨rfl, hb2⟩); rw [leNat4 _ hex1, HEX.out]))
        have hbw2 : Below w.heap.size w w2 := hb.trans ((Below.refl _ _).drew.trans (hb2.mono hb.size))
        go_wp2_with (fail)
        go_region_held3 (fun _ => True) (trivial) (first
          | (go_at_call 101; go_must (refine (Tryz.binary_LE_Uint16 D (i + 6) 2 _ _ _ _ (by decide) (HAT'.out _ (hbw2.trans (Below.refl _ _).drew) 6 _ rfl) (HAT'.out _ (hbw2.trans (Below.refl _ _).drew) 7 _ rfl)).mono ?_); go_must (rintro e w3 ⟨rfl, hb3⟩); rw [leNat2 _ hnu1, HNU.out]))
        have hbw3 : Below w.heap.size w w3 := hbw2.trans ((Below.refl _ _).drew.trans (hb3.mono hbw2.size))
        have hc8 : ¬ c = i + 8 := by omega
        have y8q : IntKind.i64.wrap ((i : Int) + 8 + (q : Int)) = (i : Int) + 8 + (q : Int) := by rw [IntKind.wrap_i64]; omega
        have z7 : (i : Int) + 8 ≤ (i : Int) + 8 + (q : Int) := by omega
        have z8 : (i : Int) + 8 + (q : Int) ≤ (c : Int) := by omega
        have z9 : (0 : Int) ≤ (i : Int) + 8 := by omega
        have t8q : ((i : Int) + 8 + (q : Int)).toNat = i + 8 + q := by omega
        have hd8 : i + 8 + q - (i + 8) = q := by omega
        have hbr2 : Below wr.heap.size wr w2 := (Below.refl _ _).drew.trans hb2
        have hbr3 : Below wr.heap.size wr w3 := hbr2.trans ((Below.refl _ _).drew.trans (hb3.mono hbr2.size))
        have hpt : ptE ms d = [.int .u8 q, .int .u16 (8 + (q : Int) + 1), .int .u8 0, .int .u32 ex, .int .u16 nu, .string st] := by
          unfold ptE
          rw [HQ.out, HEX.out, HNU.out, HSS.out, evn, if_pos hodd]
          rw [show (8 + ((q + 1 : Nat) : Int)) = 8 + (q : Int) + 1 by omega]
        have HPT := Lib.hid hpt
        have hO4 : (w3.alloc (.cells #[.int .u8 q, .int .u16 (8 + (q : Int) + 1), .int .u8 0, .int .u32 ex, .int .u16 nu, .string st] 241)).ownsRow w.heap.size 239 1 (.slice A k co) k (bs.map PB) := ownsRow_later HO.out (hbr3.alloc hbr3.size _)
        have HO4 := Lib.hid hO4
        have hbl := HB.out.1
        rw [List.length_map, List.length_take, Nat.min_eq_left hk] at hbl
        have HBL := Lib.hid hbl
        clear hpt hO4 hbl
        go_upto_region 14 with (first
          | (refine atConvert 27 9 ?_; refine asList rfl fun KK hKK => ?_; refine wp_toStr (.tmp 62) rfl (fun _ => True) _ (pathId ms d) rfl (RD'.out w3 hbw3) ?_; rw [HSS.out]; refine hKK _ _ ?_; clear hKK KK))
        have HODD := Lib.hid hodd
        clear z1 z2 z3 z4 z5 z6 z7 z8 z9 y2 y6 y8 y8q t2 t6 t8 t8q hd4 hd2 hd8 hc2 hc6 hc8 hoI hoI2 hodd hex1 hnu1 hbr2 hbw2 hb2 hb3
        go_upto_region 15 with (fail)
        go_wp2_with (first
          | (at_builtin; refine asList rfl fun KK hKK => ?_; refine go_appV (w := (w3.alloc (.cells #[.int .u8 q, .int .u16 (8 + (q : Int) + 1), .int .u8 0, .int .u32 ex, .int .u16 nu, .string st] 241))) under235 info239 (by decide) (.tmp 72) (.tmp 74) rfl w.heap.size (w3.heap.size + 1) k A co (bs.map PB) (PB w3.heap.size) (by rw [List.length_map]; exact HBL.out.symm) rfl HO4.out ((Below.refl _ _).alloc (Nat.le_refl _) _) (by show ((w3.alloc (.cells #[.int .u8 q, .int .u16 (8 + (q : Int) + 1), .int .u8 0, .int .u32 ex, .int .u16 nu, .string st] 241)).heap.push _)[(w3.alloc (.cells #[.int .u8 q, .int .u16 (8 + (q : Int) + 1), .int .u8 0, .int .u32 ex, .int .u16 nu, .string st] 241)).heap.size]? = _; rw [Array.getElem?_push_size]) (by simp) rfl rfl (by omega) (by show w.heap.size ≤ (w3.heap.push _).size; have := hbw3.size; simp; omega) ?_; intro A5 c5 w5 hO5 hb5 hg5; refine hKK _ _ ?_; clear hKK KK))
        go_roundw
        case rel =>
          refine ⟨k + 1, i + (8 + q + 1), A5, c5, bs ++ [w3.heap.size], hlt, by simp, ?_, rfl, by rw [List.map_append]; exact hO5, ?_, (hbw3.alloc hbw3.size _).trans hb5⟩
          · unfold Hid
            rw [HST.out, List.length_append, ← HI.out, HRL.out, evn, if_pos HODD.out]; omega
          · unfold Hid
            rw [take_snoc hlt, HDD.out, List.map_append]
            refine Boxes.grown (w := (w3.alloc (.cells #[.int .u8 q, .int .u16 (8 + (q : Int) + 1), .int .u8 0, .int .u32 ex, .int .u16 nu, .string st] 241))) ?_ HO4.out (by decide) hg5
            refine (((HB.out.later hbr3).later ((Below.refl _ _).alloc (Nat.le_refl _) _))).snoc ?_
            rw [HPT.out]
            show (w3.heap.push _)[w3.heap.size]? = _
            rw [Array.getElem?_push_size]
        case measure => simp [intOf]; omega
      · have hoI : ((q : Int) % 2 == 0) = true := by simp; omega
        have hoI2 : ((q : Int) % 2 != 0) = false := by simp; omega
        have y2 : IntKind.i64.wrap ((i : Int) + 2) = (i : Int) + 2 := by rw [IntKind.wrap_i64]; omega
        have y6 : IntKind.i64.wrap ((i : Int) + 6) = (i : Int) + 6 := by rw [IntKind.wrap_i64]; omega
        have y8 : IntKind.i64.wrap ((i : Int) + 8) = (i : Int) + 8 := by rw [IntKind.wrap_i64]; omega
        have t2 : ((i : Int) + 2).toNat = i + 2 := by omega
        have t6 : ((i : Int) + 6).toNat = i + 6 := by omega
        have t8 : ((i : Int) + 8).toNat = i + 8 := by omega
        have hc2 : ¬ c = i + 2 := by omega
        have hc6 : ¬ c = i + 6 := by omega
        have hd4 : i + 6 - (i + 2) = 4 := by omega
        have hd2 : i + 8 - (i + 6) = 2 := by omega
        have z1 : (0 : Int) ≤ (i : Int) + 2 := by omega
        have z2 : (i : Int) + 2 ≤ (i : Int) + 6 := by omega
        have z3 : (i : Int) + 6 ≤ (c : Int) := by omega
        have z4 : (0 : Int) ≤ (i : Int) + 6 := by omega
        have z5 : (i : Int) + 6 ≤ (i : Int) + 8 := by omega
        have z6 : (i : Int) + 8 ≤ (c : Int) := by omega
        go_wp2_with (fail)
        go_region_held3 (fun _ => True) (trivial) (first
          | (go_at_call 100; go_must (refine (Tryz.binary_LE_Uint32 D (i + 2) 4 _ _ _ _ _ _ (by decide) (HAT'.out _ (hb.trans (Below.refl _ _).drew) 2 _ rfl) (HAT'.out _ (hb.trans (Below.refl _ _).drew) 3 _ rfl) (HAT'.out _ (hb.trans (Below.refl _ _).drew) 4 _ rfl) (HAT'.out _ (hb.trans (Below.refl _ _).drew) 5 _ rfl)).mono ?_); go_must (rintro e w2 ⟨rfl, hb2⟩); rw [leNat4 _ hex1, HEX.out]))
        have hbw2 : Below w.heap.size w w2 := hb.trans ((Below.refl _ _).drew.trans (hb2.mono hb.size))
        go_wp2_with (fail)
        go_region_held3 (fun _ => True) (trivial) (first
          | (go_at_call 101; go_must (refine (Tryz.binary_LE_Uint16 D (i + 6) 2 _ _ _ _ (by decide) (HAT'.out _ (hbw2.trans (Below.refl _ _).drew) 6 _ rfl) (HAT'.out _ (hbw2.trans (Below.refl _ _).drew) 7 _ rfl)).mono ?_); go_must (rintro e w3 ⟨rfl, hb3⟩); rw [leNat2 _ hnu1, HNU.out]))
        have hbw3 : Below w.heap.size w w3 := hbw2.trans ((Below.refl _ _).drew.trans (hb3.mono hbw2.size))
        have hc8 : ¬ c = i + 8 := by omega
        have y8q : IntKind.i64.wrap ((i : Int) + 8 + (q : Int)) = (i : Int) + 8 + (q : Int) := by rw [IntKind.wrap_i64]; omega
        have z7 : (i : Int) + 8 ≤ (i : Int) + 8 + (q : Int) := by omega
        have z8 : (i : Int) + 8 + (q : Int) ≤ (c : Int) := by omega
        have z9 : (0 : Int) ≤ (i : Int) + 8 := by omega
        have t8q : ((i : Int) + 8 + (q : Int)).toNat = i + 8 + q := by omega
        have hd8 : i + 8 + q - (i + 8) = q := by omega
        have hbr2 : Below wr.heap.size wr w2 := (Below.refl _ _).drew.trans hb2
        have hbr3 : Below wr.heap.size wr w3 := hbr2.trans ((Below.refl _ _).drew.trans (hb3.mono hbr2.size))
        have hpt : ptE ms d = [.int .u8 q, .int .u16 (8 + (q : Int)), .int .u8 0, .int .u32 ex, .int .u16 nu, .string st] := by
          unfold ptE
          rw [HQ.out, HEX.out, HNU.out, HSS.out, evn, if_neg hodd]
        have HPT := Lib.hid hpt
        have hO4 : (w3.alloc (.cells #[.int .u8 q, .int .u16 (8 + (q : Int)), .int .u8 0, .int .u32 ex, .int .u16 nu, .string st] 241)).ownsRow w.heap.size 239 1 (.slice A k co) k (bs.map PB) := ownsRow_later HO.out (hbr3.alloc hbr3.size _)
        have HO4 := Lib.hid hO4
        have hbl := HB.out.1
        rw [List.length_map, List.length_take, Nat.min_eq_left hk] at hbl
        have HBL := Lib.hid hbl
        clear hpt hO4 hbl
        go_upto_region 14 with (first
          | (refine atConvert 27 9 ?_; refine asList rfl fun KK hKK => ?_; refine wp_toStr (.tmp 62) rfl (fun _ => True) _ (pathId ms d) rfl (RD'.out w3 hbw3) ?_; rw [HSS.out]; refine hKK _ _ ?_; clear hKK KK))
        have HODD := Lib.hid hodd
        clear z1 z2 z3 z4 z5 z6 z7 z8 z9 y2 y6 y8 y8q t2 t6 t8 t8q hd4 hd2 hd8 hc2 hc6 hc8 hoI hoI2 hodd hex1 hnu1 hbr2 hbw2 hb2 hb3
        go_upto_region 15 with (fail)
        go_wp2_with (first
          | (at_builtin; refine asList rfl fun KK hKK => ?_; refine go_appV (w := (w3.alloc (.cells #[.int .u8 q, .int .u16 (8 + (q : Int)), .int .u8 0, .int .u32 ex, .int .u16 nu, .string st] 241))) under235 info239 (by decide) (.tmp 72) (.tmp 74) rfl w.heap.size (w3.heap.size + 1) k A co (bs.map PB) (PB w3.heap.size) (by rw [List.length_map]; exact HBL.out.symm) rfl HO4.out ((Below.refl _ _).alloc (Nat.le_refl _) _) (by show ((w3.alloc (.cells #[.int .u8 q, .int .u16 (8 + (q : Int)), .int .u8 0, .int .u32 ex, .int .u16 nu, .string st] 241)).heap.push _)[(w3.alloc (.cells #[.int .u8 q, .int .u16 (8 + (q : Int)), .int .u8 0, .int .u32 ex, .int .u16 nu, .string st] 241)).heap.size]? = _; rw [Array.getElem?_push_size]) (by simp) rfl rfl (by omega) (by show w.heap.size ≤ (w3.heap.push _).size; have := hbw3.size; simp; omega) ?_; intro A5 c5 w5 hO5 hb5 hg5; refine hKK _ _ ?_; clear hKK KK))
        go_roundw
        case rel =>
          refine ⟨k + 1, i + (8 + q), A5, c5, bs ++ [w3.heap.size], hlt, by simp, ?_, rfl, by rw [List.map_append]; exact hO5, ?_, (hbw3.alloc hbw3.size _).trans hb5⟩
          · unfold Hid
            rw [HST.out, List.length_append, ← HI.out, HRL.out, evn, if_neg HODD.out]
          · unfold Hid
            rw [take_snoc hlt, HDD.out, List.map_append]
            refine Boxes.grown (w := (w3.alloc (.cells #[.int .u8 q, .int .u16 (8 + (q : Int)), .int .u8 0, .int .u32 ex, .int .u16 nu, .string st] 241))) ?_ HO4.out (by decide) hg5
            refine (((HB.out.later hbr3).later ((Below.refl _ _).alloc (Nat.le_refl _) _))).snoc ?_
            rw [HPT.out]
            show (w3.heap.push _)[w3.heap.size]? = _
            rw [Array.getElem?_push_size]
        case measure => simp [intOf]; omega
    · have hke : k = ds.length := by omega
      subst hke
      have hie : i = n := by rw [hi.out, List.take_length]; exact HN.out
      have HB := Lib.hid hB; have HO := Lib.hid hO
      clear hB hO hi
      go_wp2_with (fail)
      go_ret
      refine ⟨_, bs, A, co, rfl, ?_, ownsRow_later HO.out ((Below.refl _ _).alloc (Nat.le_refl _) _), ?_, hb.alloc hb.size _⟩
      · show (wr.heap.push _)[wr.heap.size]? = _
        rw [Array.getElem?_push_size]
      · have h := HB.out
        rw [List.take_length] at h
        exact h.later ((Below.refl _ _).alloc (Nat.le_refl _) _)
end Go.Proofs.YtilgpaeeleknhaaGreatDoor
end
