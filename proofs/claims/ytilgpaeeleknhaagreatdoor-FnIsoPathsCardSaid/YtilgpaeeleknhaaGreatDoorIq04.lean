/-
  DERIVED. A part of the proof of laws.FnIsoPaths (for every input the law returns true and each argument reads as before; the listed variables read as listed when the call begins). It holds:
  · Walks of the writer's small functions: numbers as bytes, dates.
-/
import Derived.Test.YtilgpaeeleknhaaGreatDoorProg
import Derived.Test.YtilgpaeeleknhaaGreatDoorIq03
import Derived.WalkKit
import Derived.WalkSpells
import Derived.WalkLawsBesides
import Derived.Lib.Hide
section
namespace Go.Proofs.YtilgpaeeleknhaaGreatDoor
open Go Go.RowKit
set_option linter.unusedSimpArgs false
set_option linter.unusedVariables false

def BV (c : UInt8) : Value := .int .u8 (c.toNat : Int)
def BVs (l : List UInt8) : List Value := l.map BV
theorem BV_u8 (n : Nat) : BV (u8 n) = .int .u8 ((n : Int) % 256) := by simp [BV, u8_toNat]
theorem length_BVs (l : List UInt8) : (BVs l).length = l.length := by simp [BVs]

theorem ret_eq {a b : Value} (h : a = b) : Ending.returned a = Ending.returned b := by rw [h]
theorem alloc_eq {w : World} {a b : Array Value} {t : TypeId} (h : a = b) : w.alloc (.cells a t) = w.alloc (.cells b t) := by rw [h]

set_option maxHeartbeats 400000 in
theorem both32_any (n : Nat) (w : World) (h1 : n < 4294967296) :
    Calls Tryz.prog 58 #[.int .u32 n] w fun e w' => e = .returned (.slice (some ⟨w.heap.size, 0, none⟩) 8 8) ∧ w' = w.alloc (.cells (BVs (both32 n)).toArray 5) := by
  go_enter Tryz.func58, Tryz.ntmps58
  go_wp2
  go_ret
  refine ⟨rfl, alloc_eq ?_⟩
  simp only [BVs, both32, le32, be32, List.map, List.cons_append, List.nil_append, BV_u8, Int.natCast_ediv, Int.cast_ofNat_Int]
  rw [show (n : Int) / 16777216 % 256 = n / 16777216 by omega]

set_option maxHeartbeats 400000 in
theorem both16_any (n : Nat) (w : World) (h1 : n < 65536) :
    Calls Tryz.prog 59 #[.int .u16 n] w fun e w' => e = .returned (.slice (some ⟨w.heap.size, 0, none⟩) 4 4) ∧ w' = w.alloc (.cells (BVs (both16 n)).toArray 5) := by
  go_enter Tryz.func59, Tryz.ntmps59
  go_wp2
  go_ret
  refine ⟨rfl, alloc_eq ?_⟩
  simp only [BVs, both16, List.map, BV_u8, Int.natCast_ediv, Int.cast_ofNat_Int]
  rw [show (n : Int) / 256 % 256 = n / 256 by omega]

set_option maxHeartbeats 800000 in
theorem civil_core (d e x y q m : Int) (w : World) (h0 : -110000000000000 ≤ d) (h1 : d ≤ 110000000000000)
    (hd : (0 ≤ d + 719468 ∧ (d + 719468) / 146097 = e) ∨ (d + 719468 < 0 ∧ (d + 719468 - 146096).tdiv 146097 = e))
    (he : -1000000000 ≤ e ∧ e ≤ 1000000000) (hx : d + 719468 - e * 146097 = x) (hxb : 0 ≤ x ∧ x < 146097)
    (hy : (x - x / 1460 + x / 36524 - x / 146096) / 365 = y) (hyb : 0 ≤ y ∧ y ≤ 399)
    (hqq : x - (365 * y + y / 4 - y / 100) = q) (hqb : 0 ≤ q ∧ q ≤ 365) (hm : (5 * q + 2) / 153 = m) (hmb : 0 ≤ m ∧ m ≤ 11) :
    Calls Tryz.prog 94 #[.int .i64 d] w fun o w' => o = .returned (.tuple #[.int .i64 (if (if 12 < m + 3 then m + 3 - 12 else m + 3) ≤ 2 then y + e * 400 + 1 else y + e * 400), .int .i64 (if 12 < m + 3 then m + 3 - 12 else m + 3), .int .i64 (q - (153 * m + 2) / 5 + 1)]) ∧ w' = w := by
  obtain ⟨he0, he1⟩ := he
  obtain ⟨hx0, hx1⟩ := hxb
  obtain ⟨hy0, hy1⟩ := hyb
  obtain ⟨hq0, hq1⟩ := hqb
  obtain ⟨hm0, hm1⟩ := hmb
  have hm12 : m + 3 - 12 ≤ 2 := by omega
  rcases hd with ⟨hd, hed⟩ | ⟨hd, hed⟩
  all_goals
    by_cases h12 : 12 < m + 3
    · go_enter Tryz.func94, Tryz.ntmps94
      go_wp2
      all_goals (go_ret3; exact ⟨by simp [h12, hm12], rfl⟩)
    · by_cases h2 : m + 3 ≤ 2
      · go_enter Tryz.func94, Tryz.ntmps94
        go_wp2
        all_goals (go_ret3; exact ⟨by simp [h12, h2], rfl⟩)
      · go_enter Tryz.func94, Tryz.ntmps94
        go_wp2
        all_goals (go_ret3; exact ⟨by simp [h12, h2], rfl⟩)

theorem tdiv_floor (z : Int) (h : z < 0) : (z - 146096).tdiv 146097 = z / 146097 := by
  rw [Int.tdiv_eq_ediv]
  have : Int.sign 146097 = 1 := by decide
  split <;> omega

/-- The date of a day. -/
theorem civil_any (d : Int) (w : World) (h0 : -110000000000000 ≤ d) (h1 : d ≤ 110000000000000) :
    Calls Tryz.prog 94 #[.int .i64 d] w fun o w' => o = .returned (.tuple #[.int .i64 (Cal.year ((d + 719468) / 146097) ((d + 719468) % 146097)), .int .i64 (Cal.month ((d + 719468) % 146097)), .int .i64 (Cal.date ((d + 719468) % 146097))]) ∧ w' = w := by
  have hb : 0 ≤ (d + 719468) % 146097 ∧ (d + 719468) % 146097 < 146097 := by omega
  refine (civil_core d ((d + 719468) / 146097) ((d + 719468) % 146097) (Cal.yoe ((d + 719468) % 146097)) (Cal.doy ((d + 719468) % 146097)) (Cal.mp ((d + 719468) % 146097)) w h0 h1 ?_ (by omega) (by omega) hb rfl (Cal.yoe_lo _ hb.1 hb.2) rfl (Cal.doy_bd _ hb.1 hb.2) rfl (Cal.mp_bd _ hb.1 hb.2)).mono ?_
  · by_cases h : 0 ≤ d + 719468
    · exact .inl ⟨h, rfl⟩
    · exact .inr ⟨by omega, tdiv_floor _ (by omega)⟩
  · rintro o w' ⟨rfl, rfl⟩
    exact ⟨rfl, rfl⟩

theorem day_facts (t : Int) : (t.tmod 86400 < 0 ∧ t.tdiv 86400 - 1 = t / 86400 ∧ t.tmod 86400 + 86400 = t % 86400) ∨ (0 ≤ t.tmod 86400 ∧ t.tdiv 86400 = t / 86400 ∧ t.tmod 86400 = t % 86400) := by
  rw [Int.tdiv_eq_ediv, Int.tmod_eq_emod]
  have : Int.sign 86400 = 1 := by decide
  have : Int.natAbs 86400 = 86400 := by decide
  split <;> omega

set_option maxHeartbeats 800000 in
theorem isoTime_core (t q m D R Y M A : Int) (w : World) (h0 : -9223372036854775808 ≤ t) (h1 : t ≤ 9223372036854775807)
    (hq : t.tdiv 86400 = q) (hm : t.tmod 86400 = m) (hD0 : -106751991167302 ≤ q) (hD1 : q ≤ 106751991167302)
    (h : (m < 0 ∧ q - 1 = D ∧ m + 86400 = R) ∨ (0 ≤ m ∧ q = D ∧ m = R)) (hR0 : 0 ≤ R) (hR1 : R < 86400)
    (hY0 : -1000000000000 ≤ Y) (hY1 : Y ≤ 1000000000000) (hM0 : 1 ≤ M) (hM1 : M ≤ 12) (hA0 : 1 ≤ A) (hA1 : A ≤ 31)
    (hc : ∀ w : World, Calls Tryz.prog 94 #[.int .i64 D] w fun o w' => o = .returned (.tuple #[.int .i64 Y, .int .i64 M, .int .i64 A]) ∧ w' = w) :
    Calls Tryz.prog 74 #[.int .i64 t] w fun o w' => o = .returned (.slice (some ⟨w.heap.size, 0, none⟩) 7 7) ∧ w' = w.alloc (.cells #[.int .u8 ((Y - 1900) % 256), .int .u8 M, .int .u8 A, .int .u8 (R / 3600), .int .u8 (R / 60 % 60), .int .u8 (R % 60), .int .u8 0] 5) := by
  have HC := Lib.hid hc
  clear hc
  rcases h with ⟨hn, rfl, rfl⟩ | ⟨hn, rfl, rfl⟩
  all_goals
    go_enter Tryz.func74, Tryz.ntmps74
    go_wp2_with fail
    refine (HC.out _).mono ?_
    rintro o w' ⟨rfl, rfl⟩
    go_wp2_with fail
    go_ret
    exact ⟨rfl, rfl⟩

/-- A time as seven bytes. -/
theorem isoTime_any (t : Int) (w : World) (h0 : -9223372036854775808 ≤ t) (h1 : t ≤ 9223372036854775807) :
    Calls Tryz.prog 74 #[.int .i64 t] w fun o w' => o = .returned (.slice (some ⟨w.heap.size, 0, none⟩) 7 7) ∧ w' = w.alloc (.cells (BVs (isoTimeB t)).toArray 5) := by
  have hf := day_facts t
  have hx : 0 ≤ (t / 86400 + 719468) % 146097 ∧ (t / 86400 + 719468) % 146097 < 146097 := by omega
  have hm := Cal.month_bd _ hx.1 hx.2
  have hdt := Cal.date_bd _ hx.1 hx.2
  have hyy := Cal.yoe_lo _ hx.1 hx.2
  have hyb : -1000000000000 ≤ Cal.year ((t / 86400 + 719468) / 146097) ((t / 86400 + 719468) % 146097) ∧ Cal.year ((t / 86400 + 719468) / 146097) ((t / 86400 + 719468) % 146097) ≤ 1000000000000 := by
    unfold Cal.year; split <;> omega
  refine (isoTime_core t _ _ (t / 86400) (t % 86400) _ _ _ w h0 h1 rfl rfl (by omega) (by omega) (by omega) (by omega) (by omega) hyb.1 hyb.2 hm.1 hm.2 hdt.1 hdt.2 (fun w => civil_any _ w (by omega) (by omega))).mono ?_
  rintro o w' ⟨rfl, rfl⟩
  refine ⟨rfl, alloc_eq ?_⟩
  simp only [BVs, isoTimeB, List.map, BV, b8_toNat]
  rw [Int.emod_eq_of_lt (a := Cal.month _) (by omega) (by omega), Int.emod_eq_of_lt (a := Cal.date _) (by omega) (by omega), Int.emod_eq_of_lt (a := t % 86400 / 3600) (by omega) (by omega), Int.emod_eq_of_lt (a := t % 86400 / 60 % 60) (by omega) (by omega), Int.emod_eq_of_lt (a := t % 86400 % 60) (by omega) (by omega)]
  rfl

end Go.Proofs.YtilgpaeeleknhaaGreatDoor
end
