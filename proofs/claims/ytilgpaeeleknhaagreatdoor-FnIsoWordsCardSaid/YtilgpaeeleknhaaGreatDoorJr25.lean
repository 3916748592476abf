/- A part of the proof of laws.FnIsoRock (see the last text). -/
import Derived.Test.YtilgpaeeleknhaaGreatDoorJr16
import Derived.Test.YtilgpaeeleknhaaGreatDoorJr19
import Derived.Test.YtilgpaeeleknhaaGreatDoorJr01
import Derived.Test.YtilgpaeeleknhaaGreatDoorJr07
set_option linter.unusedSimpArgs false
set_option linter.unusedVariables false
set_option maxRecDepth 1000000
set_option maxHeartbeats 8000000
namespace Go.Proofs.YtilgpaeeleknhaaGreatDoor
open Go Go.RowKit
structure Src (w : World) (D : Nat) (l : List UInt8) : Prop where
 lt : D < w.heap.size
 cell : ∀ (j : Nat) (b : UInt8), l[j]? = some b -> w.cell? ⟨D, j, none⟩ = some (BV b)
theorem leNat4 (n : Nat) (h : n < 4294967296) : Lib.leNat [putB n true 4 0, putB n true 4 1, putB n true 4 2, putB n true 4 3] = n := by
 simp only [Lib.leNat, putB, u8_toNat, if_true]
 simp only [Nat.reduceMul, Nat.reducePow]
 omega
theorem leNat2 (n : Nat) (h : n < 65536) : Lib.leNat [putB n true 2 0, putB n true 2 1] = n := by
 simp only [Lib.leNat, putB, u8_toNat, if_true]
 simp only [Nat.reduceMul, Nat.reducePow]
 omega
def ptE (ms : List Node) (d : Nat) : List Value :=
 [.int .u8 (pathId ms d).length, .int .u16 (8 + evn (pathId ms d).length), .int .u8 0, .int .u32 (nodeAt ms d).extent, .int .u16 (nodeAt ms (parOf ms d)).number, .string (ofL (pathId ms d))]
theorem bv_u8 (q : Nat) (h : q <= 255) : BV (u8 q) = .int .u8 q := by
 show Value.int .u8 ((u8 q).toNat : Int) = _; rw [u8_toNat, Nat.mod_eq_of_lt (by omega)]
theorem pathRec_0 (ms : List Node) (d q : Nat) (hq : (pathId ms d).length = q) : (pathRec ms true d)[0]? = some (u8 q) := by rw [<- hq]; rfl
theorem pathRec_id (ms : List Node) (d j : Nat) (hj : j < (pathId ms d).length) : (pathRec ms true d)[8 + j]? = (pathId ms d)[j]? := by
 unfold pathRec
 rw [List.getElem?_append_left (by simp [putL_length]; omega), List.getElem?_append_right (by simp [putL_length])]
 congr 1
 simp [putL_length]
theorem info239 : (Tryz.prog.info? 239).map (fun i => (i.zero.map (·.cells.size), i.size, i.bytes)) = some (some 1, 1, 8) := by kernel_rfl
theorem under235 : Tryz.prog.underlying 235 = some (.slice 239) := by kernel_rfl
theorem parsePT_any (D n c : Nat) (ms : List Node) (ds : List Nat) (w : World) (hsrc : Src w D (pathsL ms true ds)) (hn : (pathsL ms true ds).length = n) (hnc : n <= c) (hnb : n <= 30000) (hdl : ds.length <= 100) (hid : ∀ d ∈ ds, 1 <= (pathId ms d).length /\ (pathId ms d).length <= 200) (hex : ∀ d, (nodeAt ms d).extent < 4294967296) (hnu : ∀ d, (nodeAt ms d).number < 65536) :
 Calls Tryz.prog 79 #[.slice (some ⟨D, 0, none⟩) n c] w fun e w' => ∃ b bs A co, e = .returned (PB b) /\ w'.heap[b]? = some (.cells #[.slice A ds.length co] 243) /\ w'.ownsRow w.heap.size 239 1 (.slice A ds.length co) ds.length (bs.map PB) /\ Boxes w' 241 bs (ds.map (ptE ms)) /\ Below w.heap.size w w' := by
 have HS := Lib.hid hsrc; have HN := Lib.hid hn
 clear hsrc hn
 go_enter Tryz.func79, Tryz.ntmps79
 go_wp2_with (at_make; refine asList rfl fun KK hKK => ?_; refine go_makeV under235 info239 (by decide) (.const (.int .i64 0)) (.const (.int .i64 20)) rfl w.heap.size .i64 .i64 20 rfl rfl (by decide) (Nat.le_refl _) ?_; intro w1 hO1 hb1 hs1; refine hKK _ _ ?_; clear hKK KK)
 go_loopw [4, 5] (fun ev iv wr => ∃ (k i : Nat) (A : Option Addr) (co : Nat) (bs : List Nat), k <= ds.length /\ iv = .int .i64 i /\ Hid (i = (pathsL ms true (ds.take k)).length) /\ ev = .slice A k co /\ wr.ownsRow w.heap.size 239 1 (.slice A k co) k (bs.map PB) /\ Hid (Boxes wr 241 bs ((ds.take k).map (ptE ms))) /\ Below w.heap.size w wr) (fun _ iv _ => n - (intOf iv).toNat)
 case atStart => exact ⟨0, 0, _, _, [], by omega, rfl, rfl, rfl, hO1, Boxes.nil _ _, hb1⟩
 case round =>
  clear hO1 hb1 hs1
  obtain ⟨k, i, A, co, bs, hk, rfl, hi, rfl, hO, hB, hb⟩ := hrel
  by_cases hlt : k < ds.length
  . obtain ⟨d, hdd⟩ : ∃ d, ds.getD k 0 = d := ⟨_, rfl⟩
    have hdm : d ∈ ds := by rw [<- hdd]; exact getD_mem hlt
    obtain ⟨hi1, hi2⟩ := hid d hdm
    obtain ⟨q, hq⟩ : ∃ q, (pathId ms d).length = q := ⟨_, rfl⟩
    have hex1 := hex d
    have hnu1 := hnu (parOf ms d)
    have hstep := pathsL_step ms true ds k d hlt hdd
    obtain ⟨tl, htl⟩ : ∃ tl, pathsL ms true ds = pathsL ms true (ds.take k) ++ pathRec ms true d ++ tl := by
     refine ⟨pathsL ms true (ds.drop (k + 1)), ?_⟩
     rw [<- hstep]
     unfold pathsL
     rw [<- List.flatMap_append, List.take_append_drop]
    have hat : ∀ (j : Nat) (b : UInt8), (pathRec ms true d)[j]? = some b -> w.cell? ⟨D, i + j, none⟩ = some (BV b) := by
     intro j b hj
     refine HS.out.cell (i + j) b ?_
     have hjl := (List.getElem?_eq_some_iff.1 hj).1
     rw [htl, hi.out, List.append_assoc, List.getElem?_append_right (by omega), List.getElem?_append_left (by omega)]
     rw [<- hj]; congr 1; omega
    have hin : i + (pathRec ms true d).length <= n := by
     rw [<- HN.out, htl, List.length_append, List.length_append, hi.out]; omega
    have hrl : (pathRec ms true d).length = 8 + evn q := by
     have := pathsL_length ms true [d]
     simp only [pathsL, List.flatMap_cons, List.flatMap_nil, List.append_nil, List.map_cons, List.map_nil, List.sum_cons, List.sum_nil, hq] at this
     omega
    rw [hrl] at hin
    rw [hq] at hi1 hi2
    have HAT : ∀ W : World, Below w.heap.size w W -> ∀ (j : Nat) (b : UInt8), (pathRec ms true d)[j]? = some b -> W.cell? ⟨D, i + j, none⟩ = some (BV b) := by
     intro W hW j b hj
     rw [hW.cell (p := ⟨D, i + j, none⟩) HS.out.lt]; exact hat j b hj
    have HAT' := Lib.hid HAT
    have RD : ∀ W : World, Below w.heap.size w W -> RdO W (fun _ => True) (.slice (some ⟨D, i + 8, none⟩) q (c - (i + 8))) (pathId ms d) := by
     intro W hW
     refine ⟨_, _, by rw [hq], fun ad _ => trivial, fun j u hu => ⟨_, rfl, ?_⟩⟩
     have hj : j < (pathId ms d).length := by have := (List.getElem?_eq_some_iff.1 hu).1; rwa [length_BVs] at this
     rw [BVs_get _ _ hj] at hu
     cases hu
     rw [Addr.add_mid, Nat.add_assoc]
     refine HAT W hW (8 + j) _ ?_
     rw [pathRec_id ms d j hj, List.getElem?_eq_getElem hj]
    have RD' := Lib.hid RD
    clear RD
    obtain ⟨ex, hexe⟩ : ∃ ex, (nodeAt ms d).extent = ex := ⟨_, rfl⟩
    obtain ⟨nu, hnue⟩ : ∃ nu, (nodeAt ms (parOf ms d)).number = nu := ⟨_, rfl⟩
    obtain ⟨st, hst⟩ : ∃ st : ByteArray, ofL (pathId ms d) = st := ⟨_, rfl⟩
    have HSS := Lib.hid hst
    clear hst
    have HEX := Lib.hid hexe; have HNU := Lib.hid hnue
    clear hexe hnue
    have c0 : wr.cell? ⟨D, i, none⟩ = some (.int .u8 q) := by
     have := HAT'.out wr hb 0 _ (pathRec_0 ms d q hq)
     rw [bv_u8 q (by omega)] at this; exact this
    have c1 : wr.cell? ⟨D, i + 1, none⟩ = some (.int .u8 0) := HAT'.out wr hb 1 0 rfl
    have hev : evn q = if q % 2 = 1 then q + 1 else q := rfl
    have HI := Lib.hid hi; have HQ := Lib.hid hq; have HB := Lib.hid hB; have HDD := Lib.hid hdd; have HO := Lib.hid hO; have HIN := Lib.hid hin
    have hi6 : i + 8 <= n := by omega
    have HST := Lib.hid hstep; have HRL := Lib.hid hrl
    clear HAT hat hi hq hB hdd hO hstep htl hrl
    have hin2 : i + (8 + q) <= n := by unfold evn at hin; split at hin <;> omega
    clear hin
    by_cases hodd : q % 2 = 1
    . have hoI : ((q : Int) % 2 == 0) = false := by simp; omega
      have hoI2 : ((q : Int) % 2 != 0) = true := by simp; omega
      have y2 : IntKind.i64.wrap ((i : Int) + 2) = (i : Int) + 2 := by rw [IntKind.wrap_i64]; omega
      have y6 : IntKind.i64.wrap ((i : Int) + 6) = (i : Int) + 6 := by rw [IntKind.wrap_i64]; omega
      have y8 : IntKind.i64.wrap ((i : Int) + 8) = (i : Int) + 8 := by rw [IntKind.wrap_i64]; omega
      have t2 : ((i : Int) + 2).toNat = i + 2 := by omega
      have t6 : ((i : Int) + 6).toNat = i + 6 := by omega
      have t8 : ((i : Int) + 8).toNat = i + 8 := by omega
      have hc2 : ¬ c = i + 2 := by omega
      have hc6 : ¬ c = i + 6 := by omega
      have hd4 : i + 6 - (i + 2) = 4 := by omega
      have hd2 : i + 8 - (i + 6) = 2 := by omega
      have z1 : (0 : Int) <= (i : Int) + 2 := by omega
      have z2 : (i : Int) + 2 <= (i : Int) + 6 := by omega
      have z3 : (i : Int) + 6 <= (c : Int) := by omega
      have z4 : (0 : Int) <= (i : Int) + 6 := by omega
      have z5 : (i : Int) + 6 <= (i : Int) + 8 := by omega
      have z6 : (i : Int) + 8 <= (c : Int) := by omega
      go_wp2_with (fail)
      go_region_held3 (fun _ => True) (trivial) (first
       | (go_at_call 100; go_must (refine (Tryz.binary_LE_Uint32 D (i + 2) 4 _ _ _ _ _ _ (by decide) (HAT'.out _ (hb.trans (Below.refl _ _).drew) 2 _ rfl) (HAT'.out _ (hb.trans (Below.refl _ _).drew) 3 _ rfl) (HAT'.out _ (hb.trans (Below.refl _ _).drew) 4 _ rfl) (HAT'.out _ (hb.trans (Below.refl _ _).drew) 5 _ rfl)).mono ?_); go_must (rintro e w2 ⟨rfl, hb2⟩); rw [leNat4 _ hex1, HEX.out]))
      have hbw2 : Below w.heap.size w w2 := hb.trans ((Below.refl _ _).drew.trans (hb2.mono hb.size))
      go_wp2_with (fail)
      go_region_held3 (fun _ => True) (trivial) (first
       | (go_at_call 101; go_must (refine (Tryz.binary_LE_Uint16 D (i + 6) 2 _ _ _ _ (by decide) (HAT'.out _ (hbw2.trans (Below.refl _ _).drew) 6 _ rfl) (HAT'.out _ (hbw2.trans (Below.refl _ _).drew) 7 _ rfl)).mono ?_); go_must (rintro e w3 ⟨rfl, hb3⟩); rw [leNat2 _ hnu1, HNU.out]))
      have hbw3 : Below w.heap.size w w3 := hbw2.trans ((Below.refl _ _).drew.trans (hb3.mono hbw2.size))
      have hc8 : ¬ c = i + 8 := by omega
      have y8q : IntKind.i64.wrap ((i : Int) + 8 + (q : Int)) = (i : Int) + 8 + (q : Int) := by rw [IntKind.wrap_i64]; omega
      have z7 : (i : Int) + 8 <= (i : Int) + 8 + (q : Int) := by omega
      have z8 : (i : Int) + 8 + (q : Int) <= (c : Int) := by omega
      have z9 : (0 : Int) <= (i : Int) + 8 := by omega
      have t8q : ((i : Int) + 8 + (q : Int)).toNat = i + 8 + q := by omega
      have hd8 : i + 8 + q - (i + 8) = q := by omega
      have hbr2 : Below wr.heap.size wr w2 := (Below.refl _ _).drew.trans hb2
      have hbr3 : Below wr.heap.size wr w3 := hbr2.trans ((Below.refl _ _).drew.trans (hb3.mono hbr2.size))
      have hpt : ptE ms d = [.int .u8 q, .int .u16 (8 + (q : Int) + 1), .int .u8 0, .int .u32 ex, .int .u16 nu, .string st] := by
       unfold ptE
       rw [HQ.out, HEX.out, HNU.out, HSS.out, evn, if_pos hodd]
       rw [show (8 + ((q + 1 : Nat) : Int)) = 8 + (q : Int) + 1 by omega]
      have HPT := Lib.hid hpt
      have hO4 : (w3.alloc (.cells #[.int .u8 q, .int .u16 (8 + (q : Int) + 1), .int .u8 0, .int .u32 ex, .int .u16 nu, .string st] 241)).ownsRow w.heap.size 239 1 (.slice A k co) k (bs.map PB) := ownsRow_later HO.out (hbr3.alloc hbr3.size _)
      have HO4 := Lib.hid hO4
      have hbl := HB.out.1
      rw [List.length_map, List.length_take, Nat.min_eq_left hk] at hbl
      have HBL := Lib.hid hbl
      clear hpt hO4 hbl
      go_upto_region 14 with (first
       | (refine atConvert 27 9 ?_; refine asList rfl fun KK hKK => ?_; refine wp_toStr (.tmp 62) rfl (fun _ => True) _ (pathId ms d) rfl (RD'.out w3 hbw3) ?_; rw [HSS.out]; refine hKK _ _ ?_; clear hKK KK))
      have HODD := Lib.hid hodd
      clear z1 z2 z3 z4 z5 z6 z7 z8 z9 y2 y6 y8 y8q t2 t6 t8 t8q hd4 hd2 hd8 hc2 hc6 hc8 hoI hoI2 hodd hex1 hnu1 hbr2 hbw2 hb2 hb3
      go_upto_region 15 with (fail)
      go_wp2_with (first
       | (at_builtin; refine asList rfl fun KK hKK => ?_; refine go_appV (w := (w3.alloc (.cells #[.int .u8 q, .int .u16 (8 + (q : Int) + 1), .int .u8 0, .int .u32 ex, .int .u16 nu, .string st] 241))) under235 info239 (by decide) (.tmp 72) (.tmp 74) rfl w.heap.size (w3.heap.size + 1) k A co (bs.map PB) (PB w3.heap.size) (by rw [List.length_map]; exact HBL.out.symm) rfl HO4.out ((Below.refl _ _).alloc (Nat.le_refl _) _) (by show ((w3.alloc (.cells #[.int .u8 q, .int .u16 (8 + (q : Int) + 1), .int .u8 0, .int .u32 ex, .int .u16 nu, .string st] 241)).heap.push _)[(w3.alloc (.cells #[.int .u8 q, .int .u16 (8 + (q : Int) + 1), .int .u8 0, .int .u32 ex, .int .u16 nu, .string st] 241)).heap.size]? = _; rw [Array.getElem?_push_size]) (by simp) rfl rfl (by omega) (by show w.heap.size <= (w3.heap.push _).size; have := hbw3.size; simp; omega) ?_; intro A5 c5 w5 hO5 hb5 hg5; refine hKK _ _ ?_; clear hKK KK))
      go_roundw
      case rel =>
       refine ⟨k + 1, i + (8 + q + 1), A5, c5, bs ++ [w3.heap.size], hlt, by simp, ?_, rfl, by rw [List.map_append]; exact hO5, ?_, (hbw3.alloc hbw3.size _).trans hb5⟩
       . unfold Hid
         rw [HST.out, List.length_append, <- HI.out, HRL.out, evn, if_pos HODD.out]; omega
       . unfold Hid
         rw [take_snoc hlt, HDD.out, List.map_append]
         refine Boxes.grown (w := (w3.alloc (.cells #[.int .u8 q, .int .u16 (8 + (q : Int) + 1), .int .u8 0, .int .u32 ex, .int .u16 nu, .string st] 241))) ?_ HO4.out (by decide) hg5
         refine (((HB.out.later hbr3).later ((Below.refl _ _).alloc (Nat.le_refl _) _))).snoc ?_
         rw [HPT.out]
         show (w3.heap.push _)[w3.heap.size]? = _
         rw [Array.getElem?_push_size]
      case measure => simp [intOf]; omega
    . have hoI : ((q : Int) % 2 == 0) = true := by simp; omega
      have hoI2 : ((q : Int) % 2 != 0) = false := by simp; omega
      have y2 : IntKind.i64.wrap ((i : Int) + 2) = (i : Int) + 2 := by rw [IntKind.wrap_i64]; omega
      have y6 : IntKind.i64.wrap ((i : Int) + 6) = (i : Int) + 6 := by rw [IntKind.wrap_i64]; omega
      have y8 : IntKind.i64.wrap ((i : Int) + 8) = (i : Int) + 8 := by rw [IntKind.wrap_i64]; omega
      have t2 : ((i : Int) + 2).toNat = i + 2 := by omega
      have t6 : ((i : Int) + 6).toNat = i + 6 := by omega
      have t8 : ((i : Int) + 8).toNat = i + 8 := by omega
      have hc2 : ¬ c = i + 2 := by omega
      have hc6 : ¬ c = i + 6 := by omega
      have hd4 : i + 6 - (i + 2) = 4 := by omega
      have hd2 : i + 8 - (i + 6) = 2 := by omega
      have z1 : (0 : Int) <= (i : Int) + 2 := by omega
      have z2 : (i : Int) + 2 <= (i : Int) + 6 := by omega
      have z3 : (i : Int) + 6 <= (c : Int) := by omega
      have z4 : (0 : Int) <= (i : Int) + 6 := by omega
      have z5 : (i : Int) + 6 <= (i : Int) + 8 := by omega
      have z6 : (i : Int) + 8 <= (c : Int) := by omega
      go_wp2_with (fail)
      go_region_held3 (fun _ => True) (trivial) (first
       | (go_at_call 100; go_must (refine (Tryz.binary_LE_Uint32 D (i + 2) 4 _ _ _ _ _ _ (by decide) (HAT'.out _ (hb.trans (Below.refl _ _).drew) 2 _ rfl) (HAT'.out _ (hb.trans (Below.refl _ _).drew) 3 _ rfl) (HAT'.out _ (hb.trans (Below.refl _ _).drew) 4 _ rfl) (HAT'.out _ (hb.trans (Below.refl _ _).drew) 5 _ rfl)).mono ?_); go_must (rintro e w2 ⟨rfl, hb2⟩); rw [leNat4 _ hex1, HEX.out]))
      have hbw2 : Below w.heap.size w w2 := hb.trans ((Below.refl _ _).drew.trans (hb2.mono hb.size))
      go_wp2_with (fail)
      go_region_held3 (fun _ => True) (trivial) (first
       | (go_at_call 101; go_must (refine (Tryz.binary_LE_Uint16 D (i + 6) 2 _ _ _ _ (by decide) (HAT'.out _ (hbw2.trans (Below.refl _ _).drew) 6 _ rfl) (HAT'.out _ (hbw2.trans (Below.refl _ _).drew) 7 _ rfl)).mono ?_); go_must (rintro e w3 ⟨rfl, hb3⟩); rw [leNat2 _ hnu1, HNU.out]))
      have hbw3 : Below w.heap.size w w3 := hbw2.trans ((Below.refl _ _).drew.trans (hb3.mono hbw2.size))
      have hc8 : ¬ c = i + 8 := by omega
      have y8q : IntKind.i64.wrap ((i : Int) + 8 + (q : Int)) = (i : Int) + 8 + (q : Int) := by rw [IntKind.wrap_i64]; omega
      have z7 : (i : Int) + 8 <= (i : Int) + 8 + (q : Int) := by omega
      have z8 : (i : Int) + 8 + (q : Int) <= (c : Int) := by omega
      have z9 : (0 : Int) <= (i : Int) + 8 := by omega
      have t8q : ((i : Int) + 8 + (q : Int)).toNat = i + 8 + q := by omega
      have hd8 : i + 8 + q - (i + 8) = q := by omega
      have hbr2 : Below wr.heap.size wr w2 := (Below.refl _ _).drew.trans hb2
      have hbr3 : Below wr.heap.size wr w3 := hbr2.trans ((Below.refl _ _).drew.trans (hb3.mono hbr2.size))
      have hpt : ptE ms d = [.int .u8 q, .int .u16 (8 + (q : Int)), .int .u8 0, .int .u32 ex, .int .u16 nu, .string st] := by
       unfold ptE
       rw [HQ.out, HEX.out, HNU.out, HSS.out, evn, if_neg hodd]
      have HPT := Lib.hid hpt
      have hO4 : (w3.alloc (.cells #[.int .u8 q, .int .u16 (8 + (q : Int)), .int .u8 0, .int .u32 ex, .int .u16 nu, .string st] 241)).ownsRow w.heap.size 239 1 (.slice A k co) k (bs.map PB) := ownsRow_later HO.out (hbr3.alloc hbr3.size _)
      have HO4 := Lib.hid hO4
      have hbl := HB.out.1
      rw [List.length_map, List.length_take, Nat.min_eq_left hk] at hbl
      have HBL := Lib.hid hbl
      clear hpt hO4 hbl
      go_upto_region 14 with (first
       | (refine atConvert 27 9 ?_; refine asList rfl fun KK hKK => ?_; refine wp_toStr (.tmp 62) rfl (fun _ => True) _ (pathId ms d) rfl (RD'.out w3 hbw3) ?_; rw [HSS.out]; refine hKK _ _ ?_; clear hKK KK))
      have HODD := Lib.hid hodd
      clear z1 z2 z3 z4 z5 z6 z7 z8 z9 y2 y6 y8 y8q t2 t6 t8 t8q hd4 hd2 hd8 hc2 hc6 hc8 hoI hoI2 hodd hex1 hnu1 hbr2 hbw2 hb2 hb3
      go_upto_region 15 with (fail)
      go_wp2_with (first
       | (at_builtin; refine asList rfl fun KK hKK => ?_; refine go_appV (w := (w3.alloc (.cells #[.int .u8 q, .int .u16 (8 + (q : Int)), .int .u8 0, .int .u32 ex, .int .u16 nu, .string st] 241))) under235 info239 (by decide) (.tmp 72) (.tmp 74) rfl w.heap.size (w3.heap.size + 1) k A co (bs.map PB) (PB w3.heap.size) (by rw [List.length_map]; exact HBL.out.symm) rfl HO4.out ((Below.refl _ _).alloc (Nat.le_refl _) _) (by show ((w3.alloc (.cells #[.int .u8 q, .int .u16 (8 + (q : Int)), .int .u8 0, .int .u32 ex, .int .u16 nu, .string st] 241)).heap.push _)[(w3.alloc (.cells #[.int .u8 q, .int .u16 (8 + (q : Int)), .int .u8 0, .int .u32 ex, .int .u16 nu, .string st] 241)).heap.size]? = _; rw [Array.getElem?_push_size]) (by simp) rfl rfl (by omega) (by show w.heap.size <= (w3.heap.push _).size; have := hbw3.size; simp; omega) ?_; intro A5 c5 w5 hO5 hb5 hg5; refine hKK _ _ ?_; clear hKK KK))
      go_roundw
      case rel =>
       refine ⟨k + 1, i + (8 + q), A5, c5, bs ++ [w3.heap.size], hlt, by simp, ?_, rfl, by rw [List.map_append]; exact hO5, ?_, (hbw3.alloc hbw3.size _).trans hb5⟩
       . unfold Hid
         rw [HST.out, List.length_append, <- HI.out, HRL.out, evn, if_neg HODD.out]
       . unfold Hid
         rw [take_snoc hlt, HDD.out, List.map_append]
         refine Boxes.grown (w := (w3.alloc (.cells #[.int .u8 q, .int .u16 (8 + (q : Int)), .int .u8 0, .int .u32 ex, .int .u16 nu, .string st] 241))) ?_ HO4.out (by decide) hg5
         refine (((HB.out.later hbr3).later ((Below.refl _ _).alloc (Nat.le_refl _) _))).snoc ?_
         rw [HPT.out]
         show (w3.heap.push _)[w3.heap.size]? = _
         rw [Array.getElem?_push_size]
      case measure => simp [intOf]; omega
  . have hke : k = ds.length := by omega
    subst hke
    have hie : i = n := by rw [hi.out, List.take_length]; exact HN.out
    have HB := Lib.hid hB; have HO := Lib.hid hO
    clear hB hO hi
    go_wp2_with (fail)
    go_ret
    refine ⟨_, bs, A, co, rfl, ?_, ownsRow_later HO.out ((Below.refl _ _).alloc (Nat.le_refl _) _), ?_, hb.alloc hb.size _⟩
    . show (wr.heap.push _)[wr.heap.size]? = _
      rw [Array.getElem?_push_size]
    . have h := HB.out
      rw [List.take_length] at h
      exact h.later ((Below.refl _ _).alloc (Nat.le_refl _) _)
structure Rec where
 id : List UInt8
 e : Nat
 s : Nat
 t : Int
 d : Bool
 su : List UInt8
def Rec.bytes (r : Rec) : List UInt8 := isoRec r.id r.e r.s r.t r.d r.su
structure Rec.Ok (r : Rec) : Prop where
 id1 : 1 <= r.id.length
 id2 : r.id.length <= 100
 e : r.e < 4294967296
 s : r.s < 4294967296
 su : r.su = []
def Rec.self (r : Rec) : Bool := decide (r.id = [0])
def Rec.par (r : Rec) : Bool := decide (r.id = [1])
def Rec.name (r : Rec) : ByteArray := if r.self = true \/ r.par = true then ⟨#[]⟩ else ofL r.id
def TimeOf (t x a : Int) : Prop := True
def entC (r : Rec) (x a : Int) (fs : Value) (X : Option Addr) (co : Nat) : List Value :=
 [.int .u8 0, .int .u32 r.e, .int .u32 r.s, .int .i64 x, .int .i64 0, .int .i64 a, .bool false, .bool r.d, .bool false, .bool false, .bool false, .bool false, .bool r.self, .bool r.par, .bool false, .int .u16 1, fs, .string r.name, .slice X 0 co]
def EntAt (w : World) (b : Nat) (r : Rec) (fs : Value) : Prop := ∃ x a X co, TimeOf r.t x a /\ w.heap[b]? = some (.cells (entC r x a fs X co).toArray 176)
theorem EntAt.lt {w : World} {b : Nat} {r : Rec} {fs : Value} (h : EntAt w b r fs) : b < w.heap.size := by
 obtain ⟨x, a, X, co, _, h⟩ := h
 exact (Array.getElem?_eq_some_iff.1 h).1
theorem EntAt.keep {w w' : World} {b M : Nat} {r : Rec} {fs : Value} (h : EntAt w b r fs) (hb : Below M w w') (hM : b < M) : EntAt w' b r fs := by
 obtain ⟨x, a, X, co, ht, h⟩ := h
 exact ⟨x, a, X, co, ht, by rw [hb.block _ hM]; exact h⟩
theorem EntAt.later {w w' : World} {b : Nat} {r : Rec} {fs : Value} (h : EntAt w b r fs) (hb : Below w.heap.size w w') : EntAt w' b r fs := h.keep hb h.lt
theorem entC_cell {w : World} {b : Nat} {r : Rec} {x a : Int} {fs : Value} {X : Option Addr} {co : Nat} (h : w.heap[b]? = some (.cells (entC r x a fs X co).toArray 176)) (k : Nat) (v : Value) (hv : (entC r x a fs X co)[k]? = some v) : w.cell? ⟨b, k, none⟩ = some v := by
 simp only [World.cell?, h]
 simpa using hv
structure EntC (w : World) (b : Nat) (r : Rec) (fs : Value) : Prop where
 e : w.cell? ⟨b, 1, none⟩ = some (.int .u32 r.e)
 s : w.cell? ⟨b, 2, none⟩ = some (.int .u32 r.s)
 d : w.cell? ⟨b, 7, none⟩ = some (.bool r.d)
 self : w.cell? ⟨b, 12, none⟩ = some (.bool r.self)
 par : w.cell? ⟨b, 13, none⟩ = some (.bool r.par)
 fs : w.cell? ⟨b, 16, none⟩ = some fs
 name : w.cell? ⟨b, 17, none⟩ = some (.string r.name)
 exts : ∃ X co, w.cell? ⟨b, 18, none⟩ = some (.slice X 0 co)
theorem EntAt.cells {w : World} {b : Nat} {r : Rec} {fs : Value} (h : EntAt w b r fs) : EntC w b r fs := by
 obtain ⟨x, a, X, co, _, h⟩ := h
 have H := fun k v hv => entC_cell h k v hv
 exact ⟨H 1 _ rfl, H 2 _ rfl, H 7 _ rfl, H 12 _ rfl, H 13 _ rfl, H 16 _ rfl, H 17 _ rfl, ⟨X, co, H 18 _ rfl⟩⟩
theorem EntAt.setFs {w : World} {b : Nat} {r : Rec} {fs v : Value} (h : EntAt w b r fs) : EntAt (w.setCell ⟨b, 16, none⟩ v) b r v := by
 obtain ⟨x, a, X, co, ht, h⟩ := h
 refine ⟨x, a, X, co, ht, ?_⟩
 have := heap_setCell_same w b 16 _ 176 v h
 simpa [entC] using this
def Ents (w : World) (bs : List Nat) (rs : List Rec) (fs : Value) : Prop := bs.length = rs.length /\ ∀ (k b : Nat) (r : Rec), bs[k]? = some b -> rs[k]? = some r -> EntAt w b r fs
theorem Ents.nil (w : World) (fs : Value) : Ents w [] [] fs := ⟨rfl, fun k b r h => by simp at h⟩
theorem Ents.later {w w' : World} {bs : List Nat} {rs : List Rec} {fs : Value} (h : Ents w bs rs fs) (hb : Below w.heap.size w w') : Ents w' bs rs fs :=
 ⟨h.1, fun k b r h1 h2 => (h.2 k b r h1 h2).later hb⟩
theorem Ents.grown {w w' : World} {e B n co : Nat} {A : Option Addr} {us : List Value} {bs : List Nat} {rs : List Rec} {fs : Value} (h : Ents w bs rs fs) (hO : w.ownsRow B e 1 (.slice A n co) n us) (hne : e ≠ 176) (hg : w.grownBy w' (Value.slice A n co).ownBlock) : Ents w' bs rs fs := by
 refine ⟨h.1, fun k b r h1 h2 => ?_⟩
 obtain ⟨x, a, X, c, ht, hb⟩ := h.2 k b r h1 h2
 refine ⟨x, a, X, c, ht, ?_⟩
 rw [hg.block b (Array.getElem?_eq_some_iff.1 hb).1 ?_]
 . exact hb
 . intro e'
   rcases hO.2 with ⟨hv, _⟩ | ⟨g, cap, cur, hv, _, hg', _⟩
   . rw [hv] at e'; simp [Value.ownBlock] at e'
   . rw [hv] at e'
     simp only [Value.ownBlock, Option.some.injEq] at e'
     rw [<- e', hb] at hg'
     simp at hg'
     exact hne hg'.2.symm
theorem Ents.snoc {w : World} {bs : List Nat} {rs : List Rec} {fs : Value} {b : Nat} {r : Rec} (h : Ents w bs rs fs) (hb : EntAt w b r fs) : Ents w (bs ++ [b]) (rs ++ [r]) fs := by
 refine ⟨by simp [h.1], fun k b' r' h1 h2 => ?_⟩
 by_cases hlt : k < bs.length
 . rw [List.getElem?_append_left hlt] at h1
   rw [List.getElem?_append_left (by rw [<- h.1]; exact hlt)] at h2
   exact h.2 k b' r' h1 h2
 . rw [List.getElem?_append_right (by omega)] at h1
   rw [List.getElem?_append_right (by rw [<- h.1]; omega)] at h2
   have hk : k = bs.length := by
    have := (List.getElem?_eq_some_iff.1 h1).1
    simp at this; omega
   subst hk
   rw [Nat.sub_self] at h1
   rw [h.1, Nat.sub_self] at h2
   simp at h1 h2
   subst h1; subst h2
   exact hb
structure FsP (w : World) (F : Nat) (sus : Bool) : Prop where
 blk : w.cell? ⟨F, 5, none⟩ = some (.int .i64 2048)
 sus : w.cell? ⟨F, 11, none⟩ = some (.bool sus)
 exts : w.cell? ⟨F, 13, none⟩ = some (.slice none 0 0)
theorem cell_lt {w : World} {a : Addr} {v : Value} (h : w.cell? a = some v) : a.block < w.heap.size := World.block_lt_of_cell? _ _ h
theorem FsP.later {w w' : World} {F : Nat} {sus : Bool} (h : FsP w F sus) (hb : Below w.heap.size w w') : FsP w' F sus := by
 have hF : F < w.heap.size := cell_lt h.blk
 exact ⟨by rw [hb.cell (p := ⟨F, 5, none⟩) hF]; exact h.blk, by rw [hb.cell (p := ⟨F, 11, none⟩) hF]; exact h.sus, by rw [hb.cell (p := ⟨F, 13, none⟩) hF]; exact h.exts⟩
theorem FsP.lt {w : World} {F : Nat} {sus : Bool} (h : FsP w F sus) : F < w.heap.size := cell_lt h.blk
def recsOf (ns : List Node) (i : Nat) : List Rec :=
 ⟨[0], (nodeAt ns i).extent, (nodeAt ns i).size, (nodeAt ns i).f.time, true, []⟩ ::
 ⟨[1], (nodeAt ns (parOf ns i)).extent, (nodeAt ns (parOf ns i)).size, (nodeAt ns (parOf ns i)).f.time, true, []⟩ ::
 (kidsOf ns i).map (fun k => ⟨(nodeAt ns k).id.data.toList, (nodeAt ns k).extent, (nodeAt ns k).size, (nodeAt ns k).f.time, (nodeAt ns k).f.dir, (nodeAt ns k).su⟩)
theorem dirRecs_eq (ns : List Node) (i : Nat) : dirRecs ns i = (recsOf ns i).map Rec.bytes := by
 unfold dirRecs recsOf
 simp only [List.map_cons, List.map_map]
 rfl
theorem Rec.bytes_len (r : Rec) (h : r.Ok) : r.bytes.length = recLen r.id.length 0 := by
 unfold Rec.bytes; rw [isoRec_length, h.su]; rfl
theorem recLen_bd (n : Nat) (h1 : 1 <= n) (h2 : n <= 100) : 34 <= recLen n 0 /\ recLen n 0 <= 140 := by
 unfold recLen evn; split <;> split <;> omega
theorem Rec.has (r : Rec) (h : r.Ok) : RecHas r.bytes r.id r.e r.s r.d [] := by
 have := isoRec_has r.id r.e r.s r.t r.d r.su
 rw [h.su] at this
 unfold Rec.bytes; rw [h.su]; exact this
theorem under174 : Tryz.prog.underlying 174 = some (.slice 247) := by kernel_rfl
theorem info247 : (Tryz.prog.info? 247).map (fun i => (i.zero.map (·.cells.size), i.size, i.bytes)) = some (some 1, 1, 16) := by kernel_rfl
theorem three_cells {w : World} {k : Nat} {x y z : Value} {ty : TypeId} (h : w.heap[k]? = some (.cells #[x, y, z] ty)) : w.cell? ⟨k, 0, none⟩ = some x /\ w.cell? ⟨k, 1, none⟩ = some y /\ w.cell? ⟨k, 2, none⟩ = some z := by
 simp [World.cell?, h]
theorem leNat_le (e : Nat) (h : e < 4294967296) : Lib.leNat [u8 e, u8 (e / 256), u8 (e / 65536), u8 (e / 16777216)] = e := by
 simp only [Lib.leNat]; exact le32_nat e h
theorem ent_new {w6 w7 : World} {r : Rec} {re rs : Nat} {x a : Int} {X : Option Addr} {co : Nat} {nm : ByteArray} {b1 b2 : Bool} {q : Int} (hre : r.e = re) (hrs : r.s = rs) (hs : w7.heap.size = w6.heap.size + 1) (h1 : r.name = nm) (h2 : r.self = b1) (h3 : r.par = b2) (hq : q = 1) :
 EntAt (w7.alloc (.cells #[.int .u8 0, .int .u32 re, .int .u32 rs, .int .i64 x, .int .i64 0, .int .i64 a, .bool false, .bool r.d, .bool false, .bool false, .bool false, .bool false, .bool b1, .bool b2, .bool false, .int .u16 q, .pointer none, .string nm, .slice X 0 co] 176)) (w6.heap.size + 1) r (.pointer none) := by
 subst h1; subst h2; subst h3; subst hq; subst hre; subst hrs
 refine ⟨x, a, X, co, trivial, ?_⟩
 rw [<- hs]
 show (w7.heap.push _)[w7.heap.size]? = _
 rw [Array.getElem?_push_size]
 rfl
theorem entry_core (D o n c : Nat) (r : Rec) (fl : Int) (hs : Value) (w : World) (hD : D < w.heap.size) (hcell : ∀ (j : Nat) (b : UInt8), r.bytes[j]? = some b -> w.cell? ⟨D, o + j, none⟩ = some (BV b)) (hn : r.bytes.length = n) (hnc : n <= c) (hok : r.Ok) (hfl : BV (if r.d then 2 else 0) = .int .u8 fl)
 (a1 : (bits .and .u8 fl 1 == 1) = false) (a2 : (bits .and .u8 fl 2 == 2) = r.d) (a3 : (bits .and .u8 fl 4 == 4) = false) (a4 : (bits .and .u8 fl 8 == 8) = false) (a5 : (bits .and .u8 fl 16 == 16) = false) (a6 : (bits .and .u8 fl 128 == 128) = false) :
 Calls Tryz.prog 143 #[.slice (some ⟨D, o, none⟩) n c, hs, .bool false] w fun e w' => ∃ b, e = .returned (.tuple #[PB b, .nilIface]) /\ w.heap.size <= b /\ EntAt w' b r (.pointer none) /\ Below w.heap.size w w' := by
 have hr := r.has hok
 obtain ⟨h1, h2, he, hz, _⟩ := hok
 obtain ⟨re, hre⟩ : ∃ re, r.e = re := ⟨_, rfl⟩
 obtain ⟨rs, hrs⟩ : ∃ rs, r.s = rs := ⟨_, rfl⟩
 rw [hre] at hr he
 rw [hrs] at hr hz
 obtain ⟨ri, hri⟩ : ∃ ri, r.id = ri := ⟨_, rfl⟩
 obtain ⟨rb, hrb⟩ : ∃ rb, r.bytes = rb := ⟨_, rfl⟩
 rw [hri] at hr h1 h2
 rw [hrb] at hr hcell hn
 have HRE := Lib.hid hre; have HRS := Lib.hid hrs; have HRI := Lib.hid hri; have HRB := Lib.hid hrb
 clear hre hrs hri hrb
 have hn2 : n = recLen ri.length 0 := by rw [<- hn]; exact hr.len
 have hn3 : 34 <= n /\ n <= 140 := by rw [hn2]; unfold recLen evn; split <;> split <;> omega
 obtain ⟨hn34, hn140⟩ := hn3
 have HC : ∀ W : World, Below w.heap.size w W -> ∀ (j : Nat) (b : UInt8), rb[j]? = some b -> W.cell? ⟨D, o + j, none⟩ = some (BV b) := by
  intro W hW j b hj
  rw [hW.cell (p := ⟨D, o + j, none⟩) hD]; exact hcell j b hj
 have c0 : w.cell? ⟨D, o, none⟩ = some (.int .u8 n) := by
  have := hcell 0 _ hr.b0
  rw [show recLen ri.length ([] : List UInt8).length = n from hn2.symm, bv_u8 n (by omega)] at this
  exact this
 have c1 : w.cell? ⟨D, o + 1, none⟩ = some (.int .u8 0) := hcell 1 _ hr.b1
 have HC' := Lib.hid HC; have HR := Lib.hid hr; have HN := Lib.hid hn; have HN2 := Lib.hid hn2
 clear HC hr hn hn2 hcell
 have z1 : (6 : Int) <= (c : Int) := by omega
 have z2 : (14 : Int) <= (c : Int) := by omega
 have z3 : ¬ c = 2 := by omega
 have z4 : ¬ c = 10 := by omega
 have z5 : (25 : Int) <= (c : Int) := by omega
 have z6 : ¬ c = 18 := by omega
 have z7 : (30 : Int) <= (c : Int) := by omega
 have z8 : ¬ c = 28 := by omega
 obtain ⟨y0, hy0⟩ := HR.out.time 0 (by decide)
 obtain ⟨y1, hy1⟩ := HR.out.time 1 (by decide)
 obtain ⟨y2, hy2⟩ := HR.out.time 2 (by decide)
 obtain ⟨y3, hy3⟩ := HR.out.time 3 (by decide)
 obtain ⟨y4, hy4⟩ := HR.out.time 4 (by decide)
 obtain ⟨y5, hy5⟩ := HR.out.time 5 (by decide)
 obtain ⟨y6, hy6⟩ := HR.out.time 6 (by decide)
 have HA := Lib.hid (And.intro a1 (And.intro a2 (And.intro a3 (And.intro a4 (And.intro a5 a6)))))
 have HFL := Lib.hid hfl
 clear a1 a2 a3 a4 a5 a6 hfl
 go_enter Tryz.func143, Tryz.ntmps143
 go_wp2_with (fail)
 go_region_held3 (fun _ => True) (trivial) (first
  | (go_at_call 100; go_must (refine (Tryz.binary_LE_Uint32 D (o + 2) 4 _ _ _ _ _ _ (by decide) (HC'.out _ (Below.refl _ _).drew 2 _ HR.out.e0) (HC'.out _ (Below.refl _ _).drew 3 _ HR.out.e1) (HC'.out _ (Below.refl _ _).drew 4 _ HR.out.e2) (HC'.out _ (Below.refl _ _).drew 5 _ HR.out.e3)).mono ?_); go_must (rintro e w2 ⟨rfl, hb2⟩); rw [leNat_le _ he]))
 have hw2 : Below w.heap.size w w2 := (Below.refl _ _).drew.trans hb2
 go_wp2_with (fail)
 go_region_held3 (fun _ => True) (trivial) (first
  | (go_at_call 100; go_must (refine (Tryz.binary_LE_Uint32 D (o + 10) 4 _ _ _ _ _ _ (by decide) (HC'.out _ (hw2.trans (Below.refl _ _).drew) 10 _ HR.out.s0) (HC'.out _ (hw2.trans (Below.refl _ _).drew) 11 _ HR.out.s1) (HC'.out _ (hw2.trans (Below.refl _ _).drew) 12 _ HR.out.s2) (HC'.out _ (hw2.trans (Below.refl _ _).drew) 13 _ HR.out.s3)).mono ?_); go_must (rintro e w3 ⟨rfl, hb3⟩); rw [leNat_le _ hz]))
 have hw3 : Below w.heap.size w w3 := hw2.trans ((Below.refl _ _).drew.trans (hb3.mono hw2.size))
 go_wp2_with (go_at_call 153; refine (bytesToTime_some D (o + 18) 7 _ y0 y1 y2 y3 y4 y5 y6 w3 (by decide) (HC'.out w3 hw3 18 _ hy0) (HC'.out w3 hw3 19 _ hy1) (HC'.out w3 hw3 20 _ hy2) (HC'.out w3 hw3 21 _ hy3) (HC'.out w3 hw3 22 _ hy4) (HC'.out w3 hw3 23 _ hy5) (HC'.out w3 hw3 24 _ hy6)).mono ?_; rintro e w4 ⟨⟨t, a, rfl⟩, hb4⟩; have hw4 := hw3.trans (hb4.mono hw3.size); have F25 := fun ob => old_cell ob ((HC'.out w4 hw4 25 _ HR.out.flag).trans (congrArg some HFL.out)); obtain ⟨a1, a2, a3, a4, a5, a6⟩ := HA.out; have F32 := fun ob => old_cell ob ((HC'.out w4 hw4 32 _ HR.out.nlen).trans (congrArg some (bv_u8 _ (by omega)))))
 clear a1 a2 a3 a4 a5 a6
 go_region_held3 (fun _ => True) (trivial) (first
  | (go_at_call 101; go_must (refine (Tryz.binary_LE_Uint16 D (o + 28) 2 _ _ _ _ (by decide) (HC'.out _ ((hw4.alloc hw4.size _).drew) 28 _ HR.out.seq0) (HC'.out _ ((hw4.alloc hw4.size _).drew) 29 _ HR.out.seq1)).mono ?_); go_must (rintro e w6 ⟨rfl, hb6⟩)))
 have hw6 : Below w.heap.size w w6 := (hw4.alloc hw4.size _).drew.trans (hb6.mono (hw4.alloc hw4.size _).size)
 have G32 : w6.cell? ⟨D, o + 32, none⟩ = some (.int .u8 ri.length) := (HC'.out w6 hw6 32 _ HR.out.nlen).trans (congrArg some (bv_u8 _ (by omega)))
 have hcr : w6.heap[w4.heap.size]? = some (.cells #[.int .i64 t, .int .i64 0, .int .i64 a] 160) := by
  rw [hb6.block w4.heap.size (by show w4.heap.size < (w4.heap.push _).size; simp)]
  show (w4.heap.push _)[w4.heap.size]? = _
  rw [Array.getElem?_push_size]
 obtain ⟨m, hm⟩ : ∃ m, ri.length = m := ⟨_, rfl⟩
 rw [hm] at h1 h2 G32
 have hnm : (m % 2 = 0 /\ n = 34 + m) \/ (m % 2 = 1 /\ n = 33 + m) := by
  have h := HN2.out
  rw [hm] at h
  unfold recLen evn at h
  split at h <;> (split at h <;> omega)
 have z9 : (33 : Int) + (m : Int) <= (c : Int) := by omega
 have z10 : ¬ c = 33 := by omega
 have HMM := Lib.hid hm; have HHCR := Lib.hid hcr; have HB6 := Lib.hid hb6
 clear hb6 hcr hm
 clear hy0 hy1 hy2 hy3 hy4 hy5 hy6 c0 c1 F25 F32 hb2 hb3 hb4 hw2 hw3
 go_upto_region 21 with (fail)
 have RD : RdO w6 (fun _ => True) (.slice (some ⟨D, o + 33, none⟩) m (c - 33)) ri := by
  refine ⟨_, _, by rw [HMM.out], fun ad _ => trivial, fun j u hu => ⟨_, rfl, ?_⟩⟩
  have hj : j < ri.length := by have := (List.getElem?_eq_some_iff.1 hu).1; rwa [length_BVs] at this
  rw [BVs_get _ _ hj] at hu
  cases hu
  rw [Addr.add_mid, Nat.add_assoc]
  refine HC'.out w6 hw6 (33 + j) _ ?_
  rw [HR.out.name j hj, List.getElem?_eq_getElem hj]
 have RD' := Lib.hid RD
 clear RD
 rcases Nat.lt_or_ge 1 m with hm1 | hm1
 . have hm1e : ((m : Int) == 1) = false := by simp; omega
   have hself : r.self = false := by
    unfold Rec.self; rw [HRI.out, decide_eq_false_iff_not]; intro e; have := HMM.out; rw [e] at this; simp at this; omega
   have hpar : r.par = false := by
    unfold Rec.par; rw [HRI.out, decide_eq_false_iff_not]; intro e; have := HMM.out; rw [e] at this; simp at this; omega
   have hname : r.name = ofL ri := by unfold Rec.name; rw [if_neg (by rw [hself, hpar]; simp), HRI.out]
   have HSF := Lib.hid hself; have HPR := Lib.hid hpar; have HNM := Lib.hid hname
   clear hself hpar hname
   rcases hnm with ⟨hev, hn⟩ | ⟨hev, hn⟩
   . have hev2 : ((m : Int) % 2 == 0) = true := by simp; omega
     have z11 : (n : Int) <= 33 + ((m : Int) + 1) := by omega
     clear hn hev
     go_wp2_with (first
      | (refine atConvert 27 9 ?_; refine asList rfl fun KK hKK => ?_; refine wp_toStr (.tmp 98) rfl (fun _ => True) _ ri rfl RD'.out ?_; refine hKK _ _ ?_; clear hKK KK)
      | (at_make; refine asList rfl fun KK hKK => ?_; refine go_makeV under174 info247 (by decide) (.const (.int .i64 0)) (.const (.int .i64 0)) rfl w6.heap.size .i64 .i64 0 rfl rfl (by decide) (Nat.le_refl _) ?_; intro w7 hO7 hb7 hs7; refine hKK _ _ ?_; clear hKK KK; obtain ⟨L0, L1, L2⟩ := three_cells ((hb7.block _ (Array.getElem?_eq_some_iff.1 HHCR.out).1).trans HHCR.out)))
     go_ret2
     have hb67 : w.heap.size <= w6.heap.size := hw6.size
     refine ⟨_, rfl, by omega, ent_new HRE.out HRS.out hs7 HNM.out HSF.out HPR.out rfl, (hw6.trans (hb7.mono hb67)).alloc (by have := hb7.size; omega) _⟩
   . have hev2 : ((m : Int) % 2 == 0) = false := by simp; omega
     have z11 : (n : Int) <= 33 + (m : Int) := by omega
     clear hn hev
     go_wp2_with (first
      | (refine atConvert 27 9 ?_; refine asList rfl fun KK hKK => ?_; refine wp_toStr (.tmp 98) rfl (fun _ => True) _ ri rfl RD'.out ?_; refine hKK _ _ ?_; clear hKK KK)
      | (at_make; refine asList rfl fun KK hKK => ?_; refine go_makeV under174 info247 (by decide) (.const (.int .i64 0)) (.const (.int .i64 0)) rfl w6.heap.size .i64 .i64 0 rfl rfl (by decide) (Nat.le_refl _) ?_; intro w7 hO7 hb7 hs7; refine hKK _ _ ?_; clear hKK KK; obtain ⟨L0, L1, L2⟩ := three_cells ((hb7.block _ (Array.getElem?_eq_some_iff.1 HHCR.out).1).trans HHCR.out)))
     go_ret2
     have hb67 : w.heap.size <= w6.heap.size := hw6.size
     refine ⟨_, rfl, by omega, ent_new HRE.out HRS.out hs7 HNM.out HSF.out HPR.out rfl, (hw6.trans (hb7.mono hb67)).alloc (by have := hb7.size; omega) _⟩
 . have hm2 : m = 1 := by omega
   subst hm2
   have z11 : (n : Int) <= 33 + 1 := by omega
   clear hnm z9 hm1
   obtain ⟨b, hb⟩ : ∃ b, ri = [b] := by
    have := HMM.out
    cases hq : ri with
    | nil => rw [hq] at this; simp at this
    | cons b t => rw [hq] at this; cases t with
      | nil => exact ⟨b, rfl⟩
      | cons _ _ => simp at this
   have g33 : w6.cell? ⟨D, o + 33, none⟩ = some (BV b) := by
    refine HC'.out w6 hw6 33 _ ?_
    have := HR.out.name 0 (by rw [hb]; simp)
    rw [hb] at this; exact this
   by_cases hb0 : b = 0
   . subst hb0
     have hself : r.self = true := by unfold Rec.self; rw [HRI.out, hb]; rfl
     have hpar : r.par = false := by unfold Rec.par; rw [HRI.out, hb]; rfl
     have hname : r.name = ⟨#[]⟩ := by unfold Rec.name; rw [if_pos (.inl hself)]
     have HSF := Lib.hid hself; have HPR := Lib.hid hpar; have HNM := Lib.hid hname
     clear hself hpar hname hb
     have g33' : w6.cell? ⟨D, o + 33, none⟩ = some (.int .u8 0) := g33
     clear g33
     go_wp2_with (first
      | (at_make; refine asList rfl fun KK hKK => ?_; refine go_makeV under174 info247 (by decide) (.const (.int .i64 0)) (.const (.int .i64 0)) rfl w6.heap.size .i64 .i64 0 rfl rfl (by decide) (Nat.le_refl _) ?_; intro w7 hO7 hb7 hs7; refine hKK _ _ ?_; clear hKK KK; obtain ⟨L0, L1, L2⟩ := three_cells ((hb7.block _ (Array.getElem?_eq_some_iff.1 HHCR.out).1).trans HHCR.out)))
     go_ret2
     have hb67 : w.heap.size <= w6.heap.size := hw6.size
     refine ⟨_, rfl, by omega, ent_new HRE.out HRS.out hs7 HNM.out HSF.out HPR.out rfl, (hw6.trans (hb7.mono hb67)).alloc (by have := hb7.size; omega) _⟩
   . by_cases hb1 : b = 1
     . subst hb1
       have hself : r.self = false := by unfold Rec.self; rw [HRI.out, hb]; rfl
       have hpar : r.par = true := by unfold Rec.par; rw [HRI.out, hb]; rfl
       have hname : r.name = ⟨#[]⟩ := by unfold Rec.name; rw [if_pos (.inr hpar)]
       have HSF := Lib.hid hself; have HPR := Lib.hid hpar; have HNM := Lib.hid hname
       clear hself hpar hname hb
       have g33' : w6.cell? ⟨D, o + 33, none⟩ = some (.int .u8 1) := g33
       clear g33
       go_wp2_with (first
        | (at_make; refine asList rfl fun KK hKK => ?_; refine go_makeV under174 info247 (by decide) (.const (.int .i64 0)) (.const (.int .i64 0)) rfl w6.heap.size .i64 .i64 0 rfl rfl (by decide) (Nat.le_refl _) ?_; intro w7 hO7 hb7 hs7; refine hKK _ _ ?_; clear hKK KK; obtain ⟨L0, L1, L2⟩ := three_cells ((hb7.block _ (Array.getElem?_eq_some_iff.1 HHCR.out).1).trans HHCR.out)))
       go_ret2
       have hb67 : w.heap.size <= w6.heap.size := hw6.size
       refine ⟨_, rfl, by omega, ent_new HRE.out HRS.out hs7 HNM.out HSF.out HPR.out rfl, (hw6.trans (hb7.mono hb67)).alloc (by have := hb7.size; omega) _⟩
     . have hself : r.self = false := by unfold Rec.self; rw [HRI.out, hb]; simpa using hb0
       have hpar : r.par = false := by unfold Rec.par; rw [HRI.out, hb]; simpa using hb1
       have hname : r.name = ofL ri := by unfold Rec.name; rw [if_neg (by rw [hself, hpar]; simp), HRI.out]
       have HSF := Lib.hid hself; have HPR := Lib.hid hpar; have HNM := Lib.hid hname
       have hbn : b.toNat ≠ 0 /\ b.toNat ≠ 1 := ⟨fun h => hb0 (UInt8.toNat_inj.1 h), fun h => hb1 (UInt8.toNat_inj.1 h)⟩
       have hbl := b.toNat_lt
       obtain ⟨z, hz⟩ : ∃ z : Int, (b.toNat : Int) = z := ⟨_, rfl⟩
       have hz0 : (z == 0) = false := by simp; omega
       have hz1 : (z == 1) = false := by simp; omega
       have hzb : 0 <= z /\ z < 256 := by omega
       obtain ⟨hzb1, hzb2⟩ := hzb
       have g33' : w6.cell? ⟨D, o + 33, none⟩ = some (.int .u8 z) := by rw [g33, BV, hz]
       clear hself hpar hname hb g33 hbn hb0 hb1 hz hbl
       go_wp2_with (first
        | (refine atConvert 27 9 ?_; refine asList rfl fun KK hKK => ?_; refine wp_toStr (.tmp 98) rfl (fun _ => True) _ ri rfl RD'.out ?_; refine hKK _ _ ?_; clear hKK KK)
        | (at_make; refine asList rfl fun KK hKK => ?_; refine go_makeV under174 info247 (by decide) (.const (.int .i64 0)) (.const (.int .i64 0)) rfl w6.heap.size .i64 .i64 0 rfl rfl (by decide) (Nat.le_refl _) ?_; intro w7 hO7 hb7 hs7; refine hKK _ _ ?_; clear hKK KK; obtain ⟨L0, L1, L2⟩ := three_cells ((hb7.block _ (Array.getElem?_eq_some_iff.1 HHCR.out).1).trans HHCR.out)))
       go_ret2
       have hb67 : w.heap.size <= w6.heap.size := hw6.size
       refine ⟨_, rfl, by omega, ent_new HRE.out HRS.out hs7 HNM.out HSF.out HPR.out rfl, (hw6.trans (hb7.mono hb67)).alloc (by have := hb7.size; omega) _⟩
theorem entry_rec (D o n c : Nat) (r : Rec) (hs : Value) (w : World) (hD : D < w.heap.size) (hcell : ∀ (j : Nat) (b : UInt8), r.bytes[j]? = some b -> w.cell? ⟨D, o + j, none⟩ = some (BV b)) (hn : r.bytes.length = n) (hnc : n <= c) (hok : r.Ok) :
 Calls Tryz.prog 143 #[.slice (some ⟨D, o, none⟩) n c, hs, .bool false] w fun e w' => ∃ b, e = .returned (.tuple #[PB b, .nilIface]) /\ w.heap.size <= b /\ EntAt w' b r (.pointer none) /\ Below w.heap.size w w' := by
 cases hd : r.d with
 | true => exact entry_core D o n c r 2 hs w hD hcell hn hnc hok (by rw [hd]; rfl) (by decide) (by rw [hd]; decide) (by decide) (by decide) (by decide) (by decide)
 | false => exact entry_core D o n c r 0 hs w hD hcell hn hnc hok (by rw [hd]; rfl) (by decide) (by rw [hd]; decide) (by decide) (by decide) (by decide) (by decide)
end Go.Proofs.YtilgpaeeleknhaaGreatDoor
