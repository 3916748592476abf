/- A part of the proof of laws.FnIsoRock (see the last text). -/
import Derived.Test.YtilgpaeeleknhaaGreatDoorJr07
set_option linter.unusedSimpArgs false
set_option linter.unusedVariables false
set_option maxRecDepth 1000000
set_option maxHeartbeats 8000000
namespace Go.Proofs.YtilgpaeeleknhaaGreatDoor
open Go Go.RowKit
def daysM (y m d : Int) : Int := y / 400 * 146097 + (y - y / 400 * 400) * 365 + (y - y / 400 * 400) / 4 - (y - y / 400 * 400) / 100 + (153 * (m - 3) + 2) / 5 + d - 1 - 306
def daysF (y m d : Int) : Int := if m <= 2 then daysM (y - 1) (m + 12) d else daysM y m d
theorem days_cal (y m d : Int) (w : World) (y0 : 1 <= y) (y1 : y <= 3000) (m0 : 1 <= m) (m1 : m <= 12) (d0 : 0 <= d) (d1 : d <= 40) :
 Calls Tryz.prog 151 #[.int .i64 y, .int .i64 m, .int .i64 d] w fun e w' => e = .returned (.int .i64 (daysF y m d)) /\ w' = w := by
 have e : (m - 1) / 12 = 0 := by omega
 have HE := Lib.hid e
 clear e
 go_enter Tryz.func151, Tryz.ntmps151
 go_wp2_with (fail)
 all_goals
  go_ret
  refine ⟨?_, rfl⟩
  simp only [HE.out, Int.zero_mul, Int.sub_zero, Int.add_zero, Int.sub_add_cancel]
  have h2 := HE.out
  unfold daysF
  first
   | (rw [if_pos (by omega)]; rfl)
   | (rw [if_neg (by omega)]; rfl)
theorem unix_cal (z : Int) (w : World) (h0 : -100000000000 <= z) (h1 : z <= 100000000000) : Calls Tryz.prog 152 #[.int .i64 z, .int .i64 0] w fun e w' => e = .returned (.agg #[.int .i64 (z + 62135596800), .int .i64 0, .int .i64 0]) /\ Below w.heap.size w w' := by
 go_enter Tryz.func152, Tryz.ntmps152
 go_wp2_with (fail)
 refine bodyPost_ret (v := .agg #[_, _, _]) (results_cell_row rfl _ _ w.heap.size 160 #[_, _, _] (0, 0) _ rfl (heap_alloc_new w _) Tryz.underlying160 rfl (by exact info160)) rfl ?_
 refine ⟨?_, (Below.refl _ _).alloc (Nat.le_refl _) _⟩
 first
  | rfl
  | (have e : wrap64 (z + 62135596800) = z + 62135596800 := by unfold wrap64; omega
     rw [e])
theorem days_date (e x : Int) (h0 : 0 <= e) (h1 : e <= 7) (h2 : 0 <= x) (h3 : x < 146097) : daysF (Cal.year e x) (Cal.month x) (Cal.date x) = e * 146097 + x - 306 /\ 1 <= Cal.month x /\ Cal.month x <= 12 /\ 1 <= Cal.date x /\ Cal.date x <= 31 /\ 0 <= Cal.year e x /\ Cal.year e x <= 3200 := by
 obtain ⟨ya, yb'⟩ := Cal.yoe_lo x h2 h3
 obtain ⟨da, db⟩ := Cal.date_bd x h2 h3
 obtain ⟨ma, mb⟩ := Cal.month_bd x h2 h3
 obtain ⟨pa, pb⟩ := Cal.mp_bd x h2 h3
 have hyb : Cal.year e x = (if Cal.month x <= 2 then Cal.yoe x + e * 400 + 1 else Cal.yoe x + e * 400) := rfl
 have hmo : Cal.month x = (if 12 < Cal.mp x + 3 then Cal.mp x + 3 - 12 else Cal.mp x + 3) := rfl
 have hda : Cal.date x = Cal.doy x - (153 * Cal.mp x + 2) / 5 + 1 := rfl
 have hdo : Cal.doy x = x - (365 * Cal.yoe x + Cal.yoe x / 4 - Cal.yoe x / 100) := rfl
 refine ⟨?_, ma, mb, da, db, by rw [hyb]; split <;> omega, by rw [hyb]; split <;> omega⟩
 have key : daysM (Cal.yoe x + e * 400) (Cal.mp x + 3) (Cal.date x) = e * 146097 + x - 306 := by
  unfold daysM
  rw [show (Cal.yoe x + e * 400) / 400 = e by omega, show Cal.yoe x + e * 400 - e * 400 = Cal.yoe x by omega, show Cal.mp x + 3 - 3 = Cal.mp x by omega]
  omega
 unfold daysF
 by_cases hm : Cal.month x <= 2
 . rw [if_pos hm, hyb, if_pos hm, show Cal.yoe x + e * 400 + 1 - 1 = Cal.yoe x + e * 400 by omega, show Cal.month x + 12 = Cal.mp x + 3 by rw [hmo] at hm ⊢; split at hm <;> (try split) <;> omega]
   exact key
 . rw [if_neg hm, hyb, if_neg hm, show Cal.month x = Cal.mp x + 3 by rw [hmo] at hm ⊢; split at hm <;> (try split) <;> omega]
   exact key
def TimeP (t x : Int) : Prop := 0 <= t -> t < 4102444800 -> x = t + 62135596800
theorem date_cal (y m d h mi s : Int) (w : World) (y0 : 1 <= y) (y1 : y <= 3000) (m0 : 1 <= m) (m1 : m <= 12) (d0 : 0 <= d) (d1 : d <= 40) (h0 : 0 <= h) (h1 : h <= 1000) (i0 : 0 <= mi) (i1 : mi <= 1000) (s0 : 0 <= s) (s1 : s <= 1000) (z0 : -1000 <= daysF y m d) (z1 : daysF y m d <= 1100000) :
 Calls Tryz.prog 142 #[.int .i64 y, .int .i64 m, .int .i64 d, .int .i64 h, .int .i64 mi, .int .i64 s, .int .i64 0, .int .i64 0] w fun e w' => (∃ a, e = .returned (.agg #[.int .i64 (daysF y m d * 86400 + h * 3600 + mi * 60 + s), .int .i64 0, .int .i64 a])) /\ Below w.heap.size w w' := by
 have HD := Lib.hid (fun W => days_cal y m d W y0 y1 m0 m1 d0 d1)
 generalize daysF y m d = z at HD z0 z1 ⊢
 clear y0 y1 m0 m1 d0 d1
 go_enter Tryz.func142, Tryz.ntmps142
 go_wp2_with (first
  | (go_at_call 152; go_must (refine (unix_cal _ _ (by omega) (by omega)).mono ?_); rintro e w2 ⟨rfl, hb2⟩; have hz2 := old_box hb2; have A0 := fun o => old_cell o hz2.2.1; have A1 := fun o => old_cell o hz2.2.2.1; have A2 := fun o => old_cell o hz2.2.2.2.1; have R0 := fun o => old_frozen o hz2.1 0; have R1 := fun o => old_frozen o hz2.1 1; have R2 := fun o => old_frozen o hz2.1 2; have hz2 := Lib.hid hz2.1; have HB2 := Lib.hid hb2; clear hb2)
  | (go_at_call 151; go_must (refine (HD.out _).mono ?_); rintro e w1 ⟨rfl, h1⟩; have h1' := h1.symm; subst h1'))
 refine bodyPost_ret (v := .agg #[_, _, _]) (results_cell_row rfl _ _ w.heap.size 160 #[_, _, _] (0, 0) _ rfl (three_set (old_alloc hz2.out)) Tryz.underlying160 rfl (by exact info160)) rfl ?_
 refine ⟨⟨0, ?_⟩, ?_⟩
 . first
    | rfl
    | rw [show z * 86400 + h * 3600 + mi * 60 + s - 62135596800 + 62135596800 = z * 86400 + h * 3600 + mi * 60 + s by omega]
 . have hb := HB2.out
   exact (((((((Below.refl _ _).alloc (Nat.le_refl _) _).trans (hb.mono (by show w.heap.size <= (w.heap.push _).size; simp))).alloc (Nat.le_trans (by show w.heap.size <= (w.heap.push _).size; simp) hb.size) _).setCell (Nat.le_refl _) _).setCell (Nat.le_refl _) _).setCell (Nat.le_refl _) _)
theorem b8_of (z : Int) (h0 : 0 <= z) (h1 : z < 256) : ((b8 z).toNat : Int) = z := by rw [b8_toNat]; omega
theorem bytesToTime_cal (D o n c : Nat) (t : Int) (w : World) (hn : 7 <= n) (h0 : 0 <= t) (h1 : t < 4102444800) (hc : ∀ j b, (isoTimeB t)[j]? = some b -> w.cell? ⟨D, o + j, none⟩ = some (BV b)) :
 Calls Tryz.prog 153 #[.slice (some ⟨D, o, none⟩) n c] w fun e w' => (∃ a, e = .returned (.agg #[.int .i64 (t + 62135596800), .int .i64 0, .int .i64 a])) /\ Below w.heap.size w w' := by
 obtain ⟨e, he⟩ : ∃ e, (t / 86400 + 719468) / 146097 = e := ⟨_, rfl⟩
 obtain ⟨x, hx⟩ : ∃ x, (t / 86400 + 719468) % 146097 = x := ⟨_, rfl⟩
 have hxe : e * 146097 + x = t / 86400 + 719468 := by rw [<- he, <- hx]; exact Int.ediv_mul_add_emod _ _
 obtain ⟨k1, k2, k3, k4, k5, k6, k7⟩ := days_date e x (by omega) (by omega) (by omega) (by omega)
 have hY : 1970 <= Cal.year e x /\ Cal.year e x <= 2100 := by
  obtain ⟨ya, yb'⟩ := Cal.yoe_lo x (by omega) (by omega)
  obtain ⟨pa, pb⟩ := Cal.mp_bd x (by omega) (by omega)
  have d1 := Cal.doy_bd x (by omega) (by omega)
  have hdo : Cal.doy x = x - (365 * Cal.yoe x + Cal.yoe x / 4 - Cal.yoe x / 100) := rfl
  have hmo : Cal.month x = (if 12 < Cal.mp x + 3 then Cal.mp x + 3 - 12 else Cal.mp x + 3) := rfl
  have hyb : Cal.year e x = (if Cal.month x <= 2 then Cal.yoe x + e * 400 + 1 else Cal.yoe x + e * 400) := rfl
  have hmp : Cal.mp x = (5 * Cal.doy x + 2) / 153 := rfl
  rw [hyb]
  split <;> (rw [hmo] at *; split at * <;> omega)
 have hbT : isoTimeB t = [b8 (Cal.year e x - 1900), b8 (Cal.month x), b8 (Cal.date x), b8 (t % 86400 / 3600), b8 (t % 86400 / 60 % 60), b8 (t % 86400 % 60), 0] := by unfold isoTimeB; rw [he, hx]
 rw [hbT] at hc
 have C : ∀ (j : Nat) (b : UInt8) (z : Int), [b8 (Cal.year e x - 1900), b8 (Cal.month x), b8 (Cal.date x), b8 (t % 86400 / 3600), b8 (t % 86400 / 60 % 60), b8 (t % 86400 % 60), 0][j]? = some b -> (b.toNat : Int) = z -> w.cell? ⟨D, o + j, none⟩ = some (.int .u8 z) := fun j b z h1 h2 => by rw [hc j b h1, BV, h2]
 have c0 := C 0 _ _ rfl (b8_of _ (by omega) (by omega))
 rw [Nat.add_zero] at c0
 have c1 := C 1 _ _ rfl (b8_of _ (by omega) (by omega))
 have c2 := C 2 _ _ rfl (b8_of _ (by omega) (by omega))
 have c3 := C 3 _ _ rfl (b8_of _ (by omega) (by omega))
 have c4 := C 4 _ _ rfl (b8_of _ (by omega) (by omega))
 have c5 := C 5 _ _ rfl (b8_of _ (by omega) (by omega))
 have c6 := C 6 _ 0 rfl rfl
 have hD := k1
 have hs : daysF (Cal.year e x) (Cal.month x) (Cal.date x) * 86400 + t % 86400 / 3600 * 3600 + t % 86400 / 60 % 60 * 60 + t % 86400 % 60 = t + 62135596800 := by rw [k1]; omega
 have hz : -1000 <= daysF (Cal.year e x) (Cal.month x) (Cal.date x) /\ daysF (Cal.year e x) (Cal.month x) (Cal.date x) <= 1100000 := by rw [k1]; omega
 have HDC := Lib.hid (fun W => date_cal (Cal.year e x) (Cal.month x) (Cal.date x) (t % 86400 / 3600) (t % 86400 / 60 % 60) (t % 86400 % 60) W (by omega) (by omega) k2 k3 (by omega) (by omega) (by omega) (by omega) (by omega) (by omega) (by omega) (by omega) hz.1 hz.2)
 rw [hs] at HDC
 obtain ⟨y, hy⟩ : ∃ y, Cal.year e x - 1900 = y := ⟨_, rfl⟩
 have hyy : Cal.year e x = y + 1900 := by omega
 obtain ⟨m, hm⟩ : ∃ m, Cal.month x = m := ⟨_, rfl⟩
 obtain ⟨d, hd⟩ : ∃ d, Cal.date x = d := ⟨_, rfl⟩
 obtain ⟨a1, ha1⟩ : ∃ a, t % 86400 / 3600 = a := ⟨_, rfl⟩
 obtain ⟨a2, ha2⟩ : ∃ a, t % 86400 / 60 % 60 = a := ⟨_, rfl⟩
 obtain ⟨a3, ha3⟩ : ∃ a, t % 86400 % 60 = a := ⟨_, rfl⟩
 have r1 : 0 <= a1 /\ a1 < 256 := by omega
 have r2 : 0 <= a2 /\ a2 < 256 := by omega
 have r3 : 0 <= a3 /\ a3 < 256 := by omega
 have r4 : 0 <= y /\ y < 256 := by omega
 rw [hm] at k2 k3 c1
 rw [hd] at k4 k5 c2
 rw [hyy, hm, hd, ha1, ha2, ha3] at HDC
 rw [hy] at c0
 rw [ha1] at c3
 rw [ha2] at c4
 rw [ha3] at c5
 obtain ⟨r11, r12⟩ := r1; obtain ⟨r21, r22⟩ := r2; obtain ⟨r31, r32⟩ := r3; obtain ⟨r41, r42⟩ := r4
 obtain ⟨T, hT⟩ : ∃ T, t + 62135596800 = T := ⟨_, rfl⟩
 rw [hT] at HDC ⊢
 have K0 := fun o => old_cell o c0
 have K1 := fun o => old_cell o c1
 have K2 := fun o => old_cell o c2
 have K3 := fun o => old_cell o c3
 have K4 := fun o => old_cell o c4
 have K5 := fun o => old_cell o c5
 have K6 := fun o => old_cell o c6
 clear c0 c1 c2 c3 c4 c5 c6 C hc hbT hz hs hD k1 hxe he hx hY hyy hy hm hd ha1 ha2 ha3 hT k6 k7
 go_enter Tryz.func153, Tryz.ntmps153
 go_wp2_with (first
  | (go_at_call 142; go_must (refine (HDC.out _).mono ?_); rintro e w2 ⟨⟨a, rfl⟩, hb2⟩; have hz2 := old_box hb2; obtain ⟨A0, A1, A2, R0, R1, R2⟩ := hz2.2; have hz2 := Lib.hid hz2.1; have HB2 := Lib.hid hb2; clear hb2)
  | (go_at_call 162; refine (zone_any _ _ _).mono ?_; rintro e w1 ⟨rfl, rfl⟩))
 refine bodyPost_ret (v := .agg #[_, _, _]) (results_cell_row rfl _ _ w.heap.size 160 #[_, _, _] (0, 0) _ rfl (three_set hz2.out) Tryz.underlying160 rfl (by exact info160)) rfl ?_
 refine ⟨⟨_, rfl⟩, ?_⟩
 have hb := HB2.out
 exact ((((((Below.refl _ _).alloc (Nat.le_refl _) _).trans (hb.mono (by show w.heap.size <= (w.heap.push _).size; simp))).setCell (Nat.le_refl _) _).setCell (Nat.le_refl _) _).setCell (Nat.le_refl _) _)
end Go.Proofs.YtilgpaeeleknhaaGreatDoor
