/- A part of the proof of laws.FnIsoRock (see the last text). -/
import Derived.Test.YtilgpaeeleknhaaGreatDoorProg
import Derived.Test.YtilgpaeeleknhaaGreatDoorJr03
import Derived.WalkKit
import Derived.WalkSpells
import Derived.WalkLawsBesides
import Derived.Lib.Hide
import Derived.Laws.CopyOwn
import Derived.Laws.AppendOwnNone
import Derived.Lib.AppendStr
set_option linter.unusedSimpArgs false
set_option linter.unusedVariables false
set_option maxRecDepth 1000000
set_option maxHeartbeats 8000000
namespace Go.Proofs.YtilgpaeeleknhaaGreatDoor
open Go Go.RowKit
def BV (c : UInt8) : Value := .int .u8 (c.toNat : Int)
def BVs (l : List UInt8) : List Value := l.map BV
theorem BV_u8 (n : Nat) : BV (u8 n) = .int .u8 ((n : Int) % 256) := by simp [BV, u8_toNat]
theorem length_BVs (l : List UInt8) : (BVs l).length = l.length := by simp [BVs]
theorem alloc_eq {w : World} {a b : Array Value} {t : TypeId} (h : a = b) : w.alloc (.cells a t) = w.alloc (.cells b t) := by rw [h]
theorem both32_any (n : Nat) (w : World) (h1 : n < 4294967296) :
 Calls Tryz.prog 58 #[.int .u32 n] w fun e w' => e = .returned (.slice (some ⟨w.heap.size, 0, none⟩) 8 8) /\ w' = w.alloc (.cells (BVs (both32 n)).toArray 5) := by
 go_enter Tryz.func58, Tryz.ntmps58
 go_wp2
 go_ret
 refine ⟨rfl, alloc_eq ?_⟩
 simp only [BVs, both32, le32, be32, List.map, List.cons_append, List.nil_append, BV_u8, Int.natCast_ediv, Int.cast_ofNat_Int]
 rw [show (n : Int) / 16777216 % 256 = n / 16777216 by omega]
theorem both16_any (n : Nat) (w : World) (h1 : n < 65536) :
 Calls Tryz.prog 59 #[.int .u16 n] w fun e w' => e = .returned (.slice (some ⟨w.heap.size, 0, none⟩) 4 4) /\ w' = w.alloc (.cells (BVs (both16 n)).toArray 5) := by
 go_enter Tryz.func59, Tryz.ntmps59
 go_wp2
 go_ret
 refine ⟨rfl, alloc_eq ?_⟩
 simp only [BVs, both16, List.map, BV_u8, Int.natCast_ediv, Int.cast_ofNat_Int]
 rw [show (n : Int) / 256 % 256 = n / 256 by omega]
theorem civil_core (d e x y q m : Int) (w : World) (h0 : -110000000000000 <= d) (h1 : d <= 110000000000000)
 (hd : (0 <= d + 719468 /\ (d + 719468) / 146097 = e) \/ (d + 719468 < 0 /\ (d + 719468 - 146096).tdiv 146097 = e))
 (he : -1000000000 <= e /\ e <= 1000000000) (hx : d + 719468 - e * 146097 = x) (hxb : 0 <= x /\ x < 146097)
 (hy : (x - x / 1460 + x / 36524 - x / 146096) / 365 = y) (hyb : 0 <= y /\ y <= 399)
 (hqq : x - (365 * y + y / 4 - y / 100) = q) (hqb : 0 <= q /\ q <= 365) (hm : (5 * q + 2) / 153 = m) (hmb : 0 <= m /\ m <= 11) :
 Calls Tryz.prog 94 #[.int .i64 d] w fun o w' => o = .returned (.tuple #[.int .i64 (if (if 12 < m + 3 then m + 3 - 12 else m + 3) <= 2 then y + e * 400 + 1 else y + e * 400), .int .i64 (if 12 < m + 3 then m + 3 - 12 else m + 3), .int .i64 (q - (153 * m + 2) / 5 + 1)]) /\ w' = w := by
 obtain ⟨he0, he1⟩ := he
 obtain ⟨hx0, hx1⟩ := hxb
 obtain ⟨hy0, hy1⟩ := hyb
 obtain ⟨hq0, hq1⟩ := hqb
 obtain ⟨hm0, hm1⟩ := hmb
 have hm12 : m + 3 - 12 <= 2 := by omega
 rcases hd with ⟨hd, hed⟩ | ⟨hd, hed⟩
 all_goals
  by_cases h12 : 12 < m + 3
  . go_enter Tryz.func94, Tryz.ntmps94
    go_wp2
    all_goals (go_ret3; exact ⟨by simp [h12, hm12], rfl⟩)
  . by_cases h2 : m + 3 <= 2
    . go_enter Tryz.func94, Tryz.ntmps94
      go_wp2
      all_goals (go_ret3; exact ⟨by simp [h12, h2], rfl⟩)
    . go_enter Tryz.func94, Tryz.ntmps94
      go_wp2
      all_goals (go_ret3; exact ⟨by simp [h12, h2], rfl⟩)
theorem tdiv_floor (z : Int) (h : z < 0) : (z - 146096).tdiv 146097 = z / 146097 := by
 rw [Int.tdiv_eq_ediv]
 have : Int.sign 146097 = 1 := by decide
 split <;> omega
theorem civil_any (d : Int) (w : World) (h0 : -110000000000000 <= d) (h1 : d <= 110000000000000) :
 Calls Tryz.prog 94 #[.int .i64 d] w fun o w' => o = .returned (.tuple #[.int .i64 (Cal.year ((d + 719468) / 146097) ((d + 719468) % 146097)), .int .i64 (Cal.month ((d + 719468) % 146097)), .int .i64 (Cal.date ((d + 719468) % 146097))]) /\ w' = w := by
 have hb : 0 <= (d + 719468) % 146097 /\ (d + 719468) % 146097 < 146097 := by omega
 refine (civil_core d ((d + 719468) / 146097) ((d + 719468) % 146097) (Cal.yoe ((d + 719468) % 146097)) (Cal.doy ((d + 719468) % 146097)) (Cal.mp ((d + 719468) % 146097)) w h0 h1 ?_ (by omega) (by omega) hb rfl (Cal.yoe_lo _ hb.1 hb.2) rfl (Cal.doy_bd _ hb.1 hb.2) rfl (Cal.mp_bd _ hb.1 hb.2)).mono ?_
 . by_cases h : 0 <= d + 719468
   . exact .inl ⟨h, rfl⟩
   . exact .inr ⟨by omega, tdiv_floor _ (by omega)⟩
 . rintro o w' ⟨rfl, rfl⟩
   exact ⟨rfl, rfl⟩
theorem day_facts (t : Int) : (t.tmod 86400 < 0 /\ t.tdiv 86400 - 1 = t / 86400 /\ t.tmod 86400 + 86400 = t % 86400) \/ (0 <= t.tmod 86400 /\ t.tdiv 86400 = t / 86400 /\ t.tmod 86400 = t % 86400) := by
 rw [Int.tdiv_eq_ediv, Int.tmod_eq_emod]
 have : Int.sign 86400 = 1 := by decide
 have : Int.natAbs 86400 = 86400 := by decide
 split <;> omega
theorem isoTime_core (t q m D R Y M A : Int) (w : World) (h0 : -9223372036854775808 <= t) (h1 : t <= 9223372036854775807)
 (hq : t.tdiv 86400 = q) (hm : t.tmod 86400 = m) (hD0 : -106751991167302 <= q) (hD1 : q <= 106751991167302)
 (h : (m < 0 /\ q - 1 = D /\ m + 86400 = R) \/ (0 <= m /\ q = D /\ m = R)) (hR0 : 0 <= R) (hR1 : R < 86400)
 (hY0 : -1000000000000 <= Y) (hY1 : Y <= 1000000000000) (hM0 : 1 <= M) (hM1 : M <= 12) (hA0 : 1 <= A) (hA1 : A <= 31)
 (hc : ∀ w : World, Calls Tryz.prog 94 #[.int .i64 D] w fun o w' => o = .returned (.tuple #[.int .i64 Y, .int .i64 M, .int .i64 A]) /\ w' = w) :
 Calls Tryz.prog 74 #[.int .i64 t] w fun o w' => o = .returned (.slice (some ⟨w.heap.size, 0, none⟩) 7 7) /\ w' = w.alloc (.cells #[.int .u8 ((Y - 1900) % 256), .int .u8 M, .int .u8 A, .int .u8 (R / 3600), .int .u8 (R / 60 % 60), .int .u8 (R % 60), .int .u8 0] 5) := by
 have HC := Lib.hid hc
 clear hc
 rcases h with ⟨hn, rfl, rfl⟩ | ⟨hn, rfl, rfl⟩
 all_goals
  go_enter Tryz.func74, Tryz.ntmps74
  go_wp2_with fail
  refine (HC.out _).mono ?_
  rintro o w' ⟨rfl, rfl⟩
  go_wp2_with fail
  go_ret
  exact ⟨rfl, rfl⟩
theorem isoTime_any (t : Int) (w : World) (h0 : -9223372036854775808 <= t) (h1 : t <= 9223372036854775807) :
 Calls Tryz.prog 74 #[.int .i64 t] w fun o w' => o = .returned (.slice (some ⟨w.heap.size, 0, none⟩) 7 7) /\ w' = w.alloc (.cells (BVs (isoTimeB t)).toArray 5) := by
 have hf := day_facts t
 have hx : 0 <= (t / 86400 + 719468) % 146097 /\ (t / 86400 + 719468) % 146097 < 146097 := by omega
 have hm := Cal.month_bd _ hx.1 hx.2
 have hdt := Cal.date_bd _ hx.1 hx.2
 have hyy := Cal.yoe_lo _ hx.1 hx.2
 have hyb : -1000000000000 <= Cal.year ((t / 86400 + 719468) / 146097) ((t / 86400 + 719468) % 146097) /\ Cal.year ((t / 86400 + 719468) / 146097) ((t / 86400 + 719468) % 146097) <= 1000000000000 := by
  unfold Cal.year; split <;> omega
 refine (isoTime_core t _ _ (t / 86400) (t % 86400) _ _ _ w h0 h1 rfl rfl (by omega) (by omega) (by omega) (by omega) (by omega) hyb.1 hyb.2 hm.1 hm.2 hdt.1 hdt.2 (fun w => civil_any _ w (by omega) (by omega))).mono ?_
 rintro o w' ⟨rfl, rfl⟩
 refine ⟨rfl, alloc_eq ?_⟩
 simp only [BVs, isoTimeB, List.map, BV, b8_toNat]
 rw [Int.emod_eq_of_lt (a := Cal.month _) (by omega) (by omega), Int.emod_eq_of_lt (a := Cal.date _) (by omega) (by omega), Int.emod_eq_of_lt (a := t % 86400 / 3600) (by omega) (by omega), Int.emod_eq_of_lt (a := t % 86400 / 60 % 60) (by omega) (by omega), Int.emod_eq_of_lt (a := t % 86400 % 60) (by omega) (by omega)]
 rfl
theorem info5 : (Tryz.prog.info? 5).map (fun i => (i.zero, i.size, i.bytes)) = some (some (.int .u8 0), 1, 1) := by kernel_rfl
def Own (w : World) (B : Nat) (v : Value) (l : List UInt8) : Prop := w.ownsRow B 5 1 v l.length (BVs l)
def RdO (w : World) (ok : Nat -> Prop) (v : Value) (l : List UInt8) : Prop :=
 ∃ A c, v = .slice A l.length c /\ (∀ ad, A = some ad -> ok ad.block) /\ ∀ j u, (BVs l)[j]? = some u -> ∃ ad, A = some ad /\ w.cell? (ad.add j) = some u
def Rd (w : World) (B : Nat) (v : Value) (l : List UInt8) : Prop := RdO w (fun b => b < B) v l
theorem BVs_one (l : List UInt8) : ∀ u ∈ BVs l, u.oneCell' = true := by
 intro u hu
 simp only [BVs, List.mem_map] at hu
 obtain ⟨b, _, rfl⟩ := hu
 rfl
theorem BVs_append (a b : List UInt8) : BVs (a ++ b) = BVs a ++ BVs b := by simp [BVs]
theorem BVs_get (l : List UInt8) (j : Nat) (h : j < l.length) : (BVs l)[j]? = some (BV l[j]) := by simp [BVs, h]
theorem strCells_BVs (s : ByteArray) : Lib.strCells s = BVs s.data.toList := rfl
theorem Own.shape {w : World} {B : Nat} {v : Value} {l : List UInt8} (h : Own w B v l) : ∃ A c, v = .slice A l.length c /\ (∀ ad, A = some ad -> B <= ad.block /\ ad.block < w.heap.size) /\ (A = none -> l = []) := by
 have hlt := World.ownsRow.lt h
 rcases h.2 with ⟨rfl, h0⟩ | ⟨g, cap, cur, rfl, hb, _⟩
 . exact ⟨none, 0, by rw [h0], (by intro ad h; cases h), fun _ => List.eq_nil_of_length_eq_zero h0⟩
 . have := hlt g (by simp [Value.ownBlock])
   refine ⟨_, _, rfl, (by intro ad h; cases h; exact this), (by intro h; cases h)⟩
theorem Own.rd {w : World} {B : Nat} {v : Value} {l : List UInt8} (h : Own w B v l) : Rd w w.heap.size v l := by
 obtain ⟨A, c, rfl, hA, hn⟩ := h.shape
 refine ⟨A, c, rfl, fun ad e => (hA ad e).2, fun j u hu => ?_⟩
 have hp : 0 < l.length := by
  have hj : j < (BVs l).length := (List.getElem?_eq_some_iff.1 hu).1
  rw [length_BVs] at hj
  omega
 rcases h.2 with ⟨_, h0⟩ | ⟨g, cap, cur, hv, hb, _⟩
 . omega
 . injection hv with hv _ _
   subst hv
   exact ⟨_, rfl, World.ownsRow.cells h (g := g) (by simp [Value.ownBlock]) j u hu⟩
theorem add_block (ad : Addr) (j : Nat) : (ad.add j).block = ad.block := by unfold Addr.add; split <;> rfl
theorem Rd.keep {w w' : World} {B B' : Nat} {v : Value} {l : List UInt8} (h : Rd w B v l) (hb : Below B' w w') (hB : B <= B') : Rd w' B v l := by
 obtain ⟨A, c, rfl, hA, hc⟩ := h
 refine ⟨A, c, rfl, hA, fun j u hu => ?_⟩
 obtain ⟨ad, e, hcell⟩ := hc j u hu
 exact ⟨ad, e, by rw [hb.cell (p := ad.add j) (by rw [add_block]; have := hA ad e; omega)]; exact hcell⟩
theorem Rd.mono {w : World} {B B' : Nat} {v : Value} {l : List UInt8} (h : Rd w B v l) (hB : B <= B') : Rd w B' v l := by
 obtain ⟨A, c, rfl, hA, hc⟩ := h
 exact ⟨A, c, rfl, fun ad e => Nat.lt_of_lt_of_le (hA ad e) hB, hc⟩
theorem Own.nil (w : World) (B : Nat) : Own w B (.slice none 0 0) [] := World.ownsRow_nil w B 5 1
theorem Own.keep {w w' : World} {B B' : Nat} {v : Value} {l : List UInt8} (h : Own w B v l) (hb : Below B' w w') (hB : ∀ k, v.ownBlock = some k -> k < B') : Own w' B v l := by
 refine ⟨h.1, ?_⟩
 rcases h.2 with hn | ⟨g, cap, cur, rfl, hb', hg, rest⟩
 . exact .inl hn
 . exact .inr ⟨g, cap, cur, rfl, hb', by rw [hb.block g (hB g (by simp [Value.ownBlock]))]; exact hg, rest⟩
theorem Own.lower {w : World} {B B' : Nat} {v : Value} {l : List UInt8} (h : Own w B v l) (hB : B' <= B) : Own w B' v l := by
 refine ⟨h.1, ?_⟩
 rcases h.2 with hn | ⟨g, cap, cur, rfl, hb', rest⟩
 . exact .inl hn
 . exact .inr ⟨g, cap, cur, rfl, by omega, rest⟩
theorem Own.new {w : World} (l : List UInt8) (hl : l.length <= maxLen) : Own (w.alloc (.cells (BVs l).toArray 5)) w.heap.size (.slice (some ⟨w.heap.size, 0, none⟩) l.length l.length) l := by
 have := World.ownsRow_lit (base := w.heap.size) (e := 5) (size := 1) w (BVs l).toArray l.length (Nat.le_refl _) hl (by simp [BVs])
 exact this
section
variable {P : Program} {ops : Array Oper} {rest : List Oper} {o : Oper} {a : Act} {w : World} {K : Act -> World -> Prop} {Q : Exit -> Act -> World -> Prop} {E : Prop}
theorem asList (hgd : o.guard = none) (h : ∀ K : Act -> World -> Prop, (∀ a w, wpList P ops Q rest a w -> K a w) -> Oper.wp P o a w K Q) : wpList P ops Q (o :: rest) a w := wpList_plain hgd h
theorem asStep (hgd : o.guard = none) (h : Oper.wp P o a w K Q) : if Region.wanted o (yielded ops a.tmps) = true then Oper.wp P o a w K Q else E := by
 have hw : Region.wanted o (yielded ops a.tmps) = true := by simp [Region.wanted, hgd]
 rw [if_pos hw]; exact h
theorem wp_appB_of (h27 : P.underlying 27 = some (.slice 5)) (h5 : (P.info? 5).map (fun i => (i.zero, i.size, i.bytes)) = some (some (.int .u8 0), 1, 1)) (s x : Operand) (ho : o.op = .call { callee := .builtin .append, args := #[s, x], argTypes := #[27, 27] })
 (B B' : Nat) (v y : Value) (l m : List UInt8) (hs : a.eval s = v) (hown : Own w B v l) (hx : a.eval x = y) (hrd : Rd w B' y m) (hlen : l.length + m.length <= 1000000000) (hB : B <= w.heap.size)
 (h : ∀ A c w' L, Hid (L = l ++ m) -> L.length <= l.length + m.length -> l.length + m.length <= L.length -> Own w' B (.slice A L.length c) L -> w.grownBy w' v.ownBlock -> Below B w w' -> K (a.put o.dst (.slice A L.length c)) w') :
 Oper.wp P o a w K Q := by
 obtain ⟨i, hi, hz, hsz, hby⟩ := info_parts h5
 obtain ⟨A, c, rfl, hA, hc⟩ := hrd
 have hfin : ∀ v' w', w'.ownsRow B 5 1 v' (l.length + m.length) (BVs l ++ BVs m) -> w.grownBy w' v.ownBlock -> K (a.put o.dst v') w' := by
  intro v' w' ho' hg
  have hO : Own w' B v' (l ++ m) := by
   unfold Own
   rw [List.length_append, BVs_append]
   exact ho'
  obtain ⟨A', c', rfl, _, _⟩ := hO.shape
  exact h A' c' w' (l ++ m) rfl (by simp) (by simp) hO hg ((Below.refl B w).grown hg hB (fun k hk => (World.ownsRow.lt hown k hk).1))
 by_cases hm : A = none
 . have hm0 : m = [] := by
    cases m with
    | nil => rfl
    | cons b m =>
      obtain ⟨ad, e, _⟩ := hc 0 (BV b) (by simp [BVs])
      rw [hm] at e; cases e
   subst hm0
   obtain ⟨A', c', rfl, hA', hn'⟩ := hown.shape
   have hrun : (Builtin.append_ #[27, 27] o.type #[.slice A' l.length c', .slice A 0 c]).run P w = .ok (.slice A' l.length c') w := by
    subst hm
    rcases hown.2 with ⟨hv, h0⟩ | ⟨g, cap, cur, hv, _, _, hnc, _⟩
    . injection hv with h1 h2 h3
      subst h1; subst h3
      simp [Builtin.append_, run_underlying h27, sizeOf, typeInfo, hi, Builtin.lenOf, Builtin.firstCells, h2]
    . injection hv with h1 h2 h3
      subst h1; subst h3
      simp [Builtin.append_, run_underlying h27, sizeOf, typeInfo, hi, Builtin.lenOf, Builtin.firstCells, hnc, storeCells]
   unfold Oper.wp execOp
   simp only [ho, resolve, invoke, builtin, Sem.run_bind, Sem.run_pure, Result.andThen_ok, List.map_toArray, List.map_cons, List.map_nil, hs, hx, List.length_nil, hrun]
   exact hfin _ _ (by simpa [BVs] using (show w.ownsRow B 5 1 _ l.length (BVs l) from hown)) (World.grownBy.refl w _)
 . obtain ⟨ad, rfl⟩ := Option.ne_none_iff_exists'.1 hm
   refine wp_append_own w s x 27 ho B 5 i (.int .u8 0) 1 1 h27 hi hz hsz hby rfl (by decide) v l.length (BVs l) hs hown ad m.length c (BVs m) hx (by simp [BVs]) (fun j u hu => ?_) (BVs_one m) (by unfold maxLen; omega) (by omega) hB (fun v' w' h1 h2 _ => hfin v' w' h1 h2)
   obtain ⟨ad', e, h⟩ := hc j u hu
   cases e
   exact h
theorem wp_appS_of (h27 : P.underlying 27 = some (.slice 5)) (h9 : P.underlying 9 = some .string) (h5 : (P.info? 5).map (fun i => (i.zero, i.size, i.bytes)) = some (some (.int .u8 0), 1, 1)) (s x : Operand) (ho : o.op = .call { callee := .builtin .append, args := #[s, x], argTypes := #[27, 9] })
 (B : Nat) (v : Value) (l : List UInt8) (t : ByteArray) (hs : a.eval s = v) (hown : Own w B v l) (hx : a.eval x = .string t) (hlen : l.length + t.size <= 1000000000) (hB : B <= w.heap.size)
 (h : ∀ A c w' L, Hid (L = l ++ t.data.toList) -> L.length <= l.length + t.size -> l.length + t.size <= L.length -> Own w' B (.slice A L.length c) L -> w.grownBy w' v.ownBlock -> Below B w w' -> K (a.put o.dst (.slice A L.length c)) w') :
 Oper.wp P o a w K Q := by
 obtain ⟨i, hi, hz, hsz, hby⟩ := info_parts h5
 obtain ⟨v', w', hr, h2, h3, h4⟩ := Lib.run_append_own_string (P := P) w B 27 9 o.type 5 i h27 h9 hi hz hsz hby v l.length (BVs l) hown t (by unfold maxLen; omega) (by omega) hB
 unfold Oper.wp execOp
 simp only [ho, resolve, invoke, builtin, Sem.run_bind, Sem.run_pure, Result.andThen_ok, List.map_toArray, List.map_cons, List.map_nil, hs, hx, hr]
 have hsz' : t.data.toList.length = t.size := by rw [Array.length_toList]; rfl
 have hO : Own w' B v' (l ++ t.data.toList) := by
  unfold Own
  rw [List.length_append, BVs_append, hsz', <- strCells_BVs]
  exact h2
 obtain ⟨A', c', rfl, _, _⟩ := hO.shape
 exact h A' c' w' (l ++ t.data.toList) rfl (by rw [List.length_append, hsz']; exact Nat.le_refl _) (by rw [List.length_append, hsz']; exact Nat.le_refl _) hO h3 ((Below.refl B w).grown h3 hB (fun k hk => (World.ownsRow.lt hown k hk).1))
end
theorem wp_copyMin_of {P : Program} {o : Oper} {a : Act} {w : World} {K : Act -> World -> Prop} {Q : Exit -> Act -> World -> Prop} (h27 : P.underlying 27 = some (.slice 5)) (h5 : (P.info? 5).map (fun i => (i.zero, i.size, i.bytes)) = some (some (.int .u8 0), 1, 1)) (d s : Operand)
 (ho : o.op = .call { callee := .builtin .copy, args := #[d, s], argTypes := #[27, 27] })
 (B g off cap dl dc : Nat) (l m : List UInt8) (hd : a.eval d = .slice (some ⟨g, off, none⟩) dl dc) (hown : Own w B (.slice (some ⟨g, 0, none⟩) l.length cap) l) (sl sc : Nat) (A : Option Addr) (hdl : m.length = Nat.min sl dl) (hfit : off + m.length <= l.length)
 (hs : a.eval s = .slice A sl sc) (hc : ∀ j u, (BVs m)[j]? = some u -> ∃ ad, A = some ad /\ w.cell? (ad.add j) = some u)
 (h : ∀ w' L, Hid (L = splice l off m) -> L.length <= l.length -> l.length <= L.length -> Own w' B (.slice (some ⟨g, 0, none⟩) L.length cap) L -> Below B w w' -> w.grownBy w' (some g) -> K (a.put o.dst (goInt m.length)) w') :
 Oper.wp P o a w K Q := by
 obtain ⟨i, hi, hz, hsz, hby⟩ := info_parts h5
 rcases hown.2 with ⟨hv, h0⟩ | ⟨g', cap', cur, hv, hBg, hg, hnc, hcm, hcs, htake⟩
 . cases hv
 injection hv with hv1 hv2 hv3
 injection hv1 with hv1
 injection hv1 with hv1 _ _
 subst hv1; subst hv3
 have hsz1 : (P.info? 5).map (·.size) = some 1 := by simp [hi, hsz]
 have hll : (splice l off m).length = l.length := length_splice l off m hfit
 have hBW : B <= w.heap.size := by have := (Array.getElem?_eq_some_iff.1 hg).1; omega
 by_cases hm : m = []
 . subst hm
   have hrun := run_copy_none (P := P) (w := w) 27 27 o.type 5 (some ⟨g, off, none⟩) A dl dc sl sc h27 hsz1 (by simpa using hdl.symm)
   unfold Oper.wp
   simp [execOp, ho, resolve, invoke, builtin, hd, hs, hrun, Result.andThen]
   have e : splice l off [] = l := by simp [splice]
   have := h w l (by rw [show splice l off [] = l from e]; rfl) (Nat.le_refl _) (Nat.le_refl _) hown (Below.refl B w) (World.grownBy.refl w _)
   exact this
 . have hml : 0 < m.length := List.length_pos_iff.2 hm
   obtain ⟨ad, e, _⟩ := hc 0 (BV m[0]) (BVs_get m 0 hml)
   subst e
   have hcs' : cur.size = cap := by simpa using hcs
   have hrun := run_copy_row (P := P) w 27 27 o.type 5 g off dl dc ad sl sc cur 5 (BVs m) h27 hsz1 hg (by rw [length_BVs]; exact hdl) (fun j u hu => by obtain ⟨ad', e, h⟩ := hc j u hu; cases e; exact h) (by rw [length_BVs]; omega) (BVs_one m)
   unfold Oper.wp
   simp only [length_BVs] at hrun
   simp [execOp, ho, resolve, invoke, builtin, hd, hs, hrun, Result.andThen]
   have hO : Own (w.setRow g (cur.toList.take off ++ (BVs m ++ cur.toList.drop (off + (BVs m).length))).toArray) B (.slice (some ⟨g, 0, none⟩) (splice l off m).length cap) (splice l off m) := by
    refine ⟨by simp [length_BVs], .inr ⟨g, cap, _, rfl, hBg, setRow_heap w g cur _ 5 _ hg, by omega, hcm, ?_, ?_⟩⟩
    . simp [length_BVs]; omega
    . have ht' : cur.toList.take l.length = BVs l := by simpa using htake
      have hcl : cur.toList.length = cap := by simp [hcs']
      rw [hll]
      apply List.ext_getElem?
      intro j
      have hj : ∀ j, j < l.length -> cur.toList[j]? = (BVs l)[j]? := by
       intro j hj
       rw [<- ht', List.getElem?_take, if_pos hj]
      simp only [Nat.mul_one, List.getElem?_take]
      by_cases h1 : j < l.length
      . rw [if_pos h1]
        have e2 : BVs (splice l off m) = splice (BVs l) off (BVs m) := by simp [BVs, splice]
        rw [e2, splice, List.getElem?_append, List.getElem?_append, List.getElem?_append, List.getElem?_append]
        simp only [List.length_take, length_BVs, hcl, List.getElem?_take, List.getElem?_drop]
        have m1 : min off cap = off := by omega
        have m2 : min off l.length = off := by omega
        rw [m1, m2]
        by_cases h2 : j < off
        . simp only [if_pos h2]; exact hj j h1
        . simp only [if_neg h2]
          by_cases h3 : j - off < m.length
          . simp only [if_pos h3]
          . simp only [if_neg h3]
            exact hj _ (by omega)
      . rw [if_neg h1]
        rw [List.getElem?_eq_none]
        rw [length_BVs, hll]; omega
   have hgb : w.grownBy (w.setRow g (cur.toList.take off ++ (BVs m ++ cur.toList.drop (off + (BVs m).length))).toArray) (some g) :=
    ⟨rfl, rfl, rfl, by simp, fun k _ hk => setRow_other w g k _ (fun e => hk (by simp [e]))⟩
   have := h _ _ rfl (by rw [hll]; exact Nat.le_refl _) (by rw [hll]; exact Nat.le_refl _) hO ((Below.refl B w).grown hgb hBW (fun k hk => by injection hk with hk; omega)) hgb
   rw [length_BVs] at this
   exact this
theorem wp_makeB_of {P : Program} {o : Oper} {a : Act} {w : World} {K : Act -> World -> Prop} {Q : Exit -> Act -> World -> Prop} (h27 : P.underlying 27 = some (.slice 5)) (h5 : (P.info? 5).map (fun i => (i.zero, i.size, i.bytes)) = some (some (.int .u8 0), 1, 1)) (l c : Operand)
 (ho : o.op = Op.makeSlice 27 l c) (B : Nat) (kl kc : IntKind) (L C : Int) (n m : Nat) (hl : a.eval l = .int kl L) (hc : a.eval c = .int kc C) (hL : L = n) (hC : C = m) (hnm : n <= m) (hm : m <= 1000000000) (hB : B <= w.heap.size)
 (h : ∀ w' L, Hid (L = List.replicate n 0) -> L.length <= n -> n <= L.length -> Own w' B (.slice (some ⟨w.heap.size, 0, none⟩) L.length m) L -> Below B w w' -> w'.heap.size = w.heap.size + 1 -> K (a.put o.dst (.slice (some ⟨w.heap.size, 0, none⟩) n m)) w') :
 Oper.wp P o a w K Q := by
 obtain ⟨i, hi, hz, hsz, hby⟩ := info_parts h5
 subst hL
 subst hC
 have hr := run_make (P := P) w 27 5 i (.int .u8 0) h27 hi hz kl kc n m (by omega) (by omega) (by rw [hby]; omega) (by omega)
 simp only [Int.toNat_natCast, hsz, Nat.mul_one] at hr
 unfold Oper.wp
 simp [execOp, ho, hl, hc, hr, Result.andThen]
 refine h _ (List.replicate n 0) rfl (by simp) (by simp) ?_ ((Below.refl B w).alloc hB _) (by simp)
 refine ⟨by simp [length_BVs], .inr ⟨w.heap.size, m, _, by simp, hB, heap_alloc_new w _, by simpa using hnm, by unfold maxLen; omega, by simp [size_madeCells], ?_⟩⟩
 have : (madeCells (Value.int .u8 0).cells m).toList = List.replicate m (.int .u8 0) := toList_madeCells_one _ _
 rw [this]
 simp only [List.length_replicate, Nat.mul_one, List.take_replicate, Nat.min_eq_left hnm, BVs, List.map_replicate, BV]
 rfl
theorem Own.set {w : World} {B g cap : Nat} {l : List UInt8} (h : Own w B (.slice (some ⟨g, 0, none⟩) l.length cap) l) (j : Nat) (c : UInt8) : Own (w.setCell ⟨g, j, none⟩ (BV c)) B (.slice (some ⟨g, 0, none⟩) (l.set j c).length cap) (l.set j c) := by
 have := World.ownsRow.stored h j (BV c)
 unfold Own
 rw [List.length_set]
 have e : BVs (l.set j c) = (BVs l).set j (BV c) := by simp [BVs, List.map_set]
 rw [e]
 exact this.1
theorem Own.cell {w : World} {B g cap : Nat} {l : List UInt8} (h : Own w B (.slice (some ⟨g, 0, none⟩) l.length cap) l) (j : Nat) (hj : j < l.length) : w.cell? ⟨g, j, none⟩ = some (BV l[j]) := by
 have := World.ownsRow.cellAt h j (by omega)
 rw [this, BVs_get l j hj]
theorem Own.unfrozen {w : World} {B g cap : Nat} {l : List UInt8} (h : Own w B (.slice (some ⟨g, 0, none⟩) l.length cap) l) (j : Nat) : w.frozen? ⟨g, j, none⟩ = false := World.ownsRow.frozenAt h j
theorem Own.base {w : World} {B g cap n : Nat} {l : List UInt8} (h : Own w B (.slice (some ⟨g, 0, none⟩) n cap) l) : B <= g /\ g < w.heap.size := World.ownsRow.lt h g (by simp [Value.ownBlock])
abbrev wp_makeB {o : Oper} {a : Act} {w : World} {K : Act -> World -> Prop} {Q : Exit -> Act -> World -> Prop} := @wp_makeB_of Tryz.prog o a w K Q Tryz.underlying27 info5
theorem wp_copyB_of {P : Program} {o : Oper} {a : Act} {w : World} {K : Act -> World -> Prop} {Q : Exit -> Act -> World -> Prop} (h27 : P.underlying 27 = some (.slice 5)) (h5 : (P.info? 5).map (fun i => (i.zero, i.size, i.bytes)) = some (some (.int .u8 0), 1, 1)) (d s : Operand)
 (ho : o.op = .call { callee := .builtin .copy, args := #[d, s], argTypes := #[27, 27] })
 (B B' g off cap dl dc : Nat) (l m : List UInt8) (y : Value) (hd : a.eval d = .slice (some ⟨g, off, none⟩) dl dc) (hown : Own w B (.slice (some ⟨g, 0, none⟩) l.length cap) l) (hdl : m.length <= dl) (hfit : off + m.length <= l.length)
 (hs : a.eval s = y) (hrd : Rd w B' y m)
 (h : ∀ w' L, Hid (L = splice l off m) -> L.length <= l.length -> l.length <= L.length -> Own w' B (.slice (some ⟨g, 0, none⟩) L.length cap) L -> Below B w w' -> w.grownBy w' (some g) -> K (a.put o.dst (goInt m.length)) w') :
 Oper.wp P o a w K Q := by
 obtain ⟨A, c, rfl, hA, hc⟩ := hrd
 exact wp_copyMin_of h27 h5 d s ho B g off cap dl dc l m hd hown m.length c A (Nat.min_eq_left hdl).symm hfit hs hc h
theorem Own.later {w w' : World} {B : Nat} {v : Value} {l : List UInt8} (h : Own w B v l) (hb : Below w.heap.size w w') : Own w' B v l := h.keep hb (fun k hk => (World.ownsRow.lt h k hk).2)
theorem Own.rdAt {w : World} {B : Nat} {v : Value} {l : List UInt8} (h : Own w B v l) {B' : Nat} (hB : w.heap.size <= B') : Rd w B' v l := h.rd.mono hB
theorem rd_lit (w : World) (l : List UInt8) (hl : l.length <= 1000000000) : Rd (w.alloc (.cells (BVs l).toArray 5)) (w.heap.size + 1) (.slice (some ⟨w.heap.size, 0, none⟩) l.length l.length) l :=
 (Own.new (w := w) l (by unfold maxLen; omega)).rdAt (by simp)
theorem wp_copyNew {o : Oper} {a : Act} {w0 w : World} {K : Act -> World -> Prop} {Q : Exit -> Act -> World -> Prop} (d s : Operand)
 (ho : o.op = .call { callee := .builtin .copy, args := #[d, s], argTypes := #[27, 27] })
 (B g off cap dl dc N : Nat) (l m : List UInt8) (hd : a.eval d = .slice (some ⟨g, off, none⟩) dl dc) (hown : Own w B (.slice (some ⟨g, 0, none⟩) l.length cap) l) (hdl : m.length <= dl) (hfit : off + m.length <= l.length)
 (hN : w.heap.size = N) (hs : a.eval s = .slice (some ⟨N, 0, none⟩) m.length m.length) (hm : m.length <= 1000000000) (hb : Below B w0 w) (hB : B <= w.heap.size)
 (h : ∀ w' L, Hid (L = splice l off m) -> L.length <= l.length -> l.length <= L.length -> Own w' B (.slice (some ⟨g, 0, none⟩) L.length cap) L -> Below B w0 w' -> K (a.put o.dst (goInt m.length)) w') :
 Oper.wp Tryz.prog o a (w.alloc (.cells (BVs m).toArray 5)).drew K Q := by
 subst hN
 have hbb : Below w.heap.size w (w.alloc (.cells (BVs m).toArray 5)).drew := ((Below.refl _ _).alloc (Nat.le_refl _) _).drew
 have hr : Rd (w.alloc (.cells (BVs m).toArray 5)).drew (w.heap.size + 1) (.slice (some ⟨w.heap.size, 0, none⟩) m.length m.length) m :=
  (rd_lit w m hm).keep (B' := w.heap.size + 1) ((Below.refl _ _).drew) (Nat.le_refl _)
 exact wp_copyB_of Tryz.underlying27 info5 d s ho B _ g off cap dl dc l m _ hd (hown.later hbb) hdl hfit hs hr (fun w' L h1 h2 h3 h4 h5 _ => h w' L h1 h2 h3 h4 (hb.trans ((hbb.mono hB).trans h5)))
theorem Own.addr {w : World} {B n c : Nat} {A : Option Addr} {l : List UInt8} (h : Own w B (.slice A n c) l) (hl : 0 < l.length) : ∃ g, A = some ⟨g, 0, none⟩ := by
 rcases h.2 with ⟨_, h0⟩ | ⟨g, cap, cur, hv, _⟩
 . omega
 . injection hv with hv _ _; exact ⟨g, hv⟩
theorem go_appB {o : Oper} {a : Act} {w0 w : World} {K : Act -> World -> Prop} {Q : Exit -> Act -> World -> Prop} (s x : Operand) (ho : o.op = .call { callee := .builtin .append, args := #[s, x], argTypes := #[27, 27] })
 (B B' : Nat) (v y : Value) (l m : List UInt8) (hs : a.eval s = v) (hown : Own w B v l) (hx : a.eval x = y) (hrd : Rd w B' y m) (hlen : l.length + m.length <= 1000000000) (hb : Below B w0 w) (hB : B <= w0.heap.size)
 (h : ∀ A c w' L, Hid (L = l ++ m) -> L.length <= l.length + m.length -> l.length + m.length <= L.length -> Own w' B (.slice A L.length c) L -> Below B w0 w' -> w.grownBy w' v.ownBlock -> K (a.put o.dst (.slice A L.length c)) w') :
 Oper.wp Tryz.prog o a w K Q :=
 wp_appB_of Tryz.underlying27 info5 s x ho B B' v y l m hs hown hx hrd hlen (Nat.le_trans hB hb.size) (fun A c w' L h1 h2 h3 h4 h5 h6 => h A c w' L h1 h2 h3 h4 (hb.trans h6) h5)
theorem go_appS {o : Oper} {a : Act} {w0 w : World} {K : Act -> World -> Prop} {Q : Exit -> Act -> World -> Prop} (s x : Operand) (ho : o.op = .call { callee := .builtin .append, args := #[s, x], argTypes := #[27, 9] })
 (B : Nat) (v : Value) (l : List UInt8) (t : ByteArray) (hs : a.eval s = v) (hown : Own w B v l) (hx : a.eval x = .string t) (hlen : l.length + t.size <= 1000000000) (hb : Below B w0 w) (hB : B <= w0.heap.size)
 (h : ∀ A c w' L, Hid (L = l ++ t.data.toList) -> L.length <= l.length + t.size -> l.length + t.size <= L.length -> Own w' B (.slice A L.length c) L -> Below B w0 w' -> w.grownBy w' v.ownBlock -> K (a.put o.dst (.slice A L.length c)) w') :
 Oper.wp Tryz.prog o a w K Q :=
 wp_appS_of Tryz.underlying27 Tryz.underlying9 info5 s x ho B v l t hs hown hx hlen (Nat.le_trans hB hb.size) (fun A c w' L h1 h2 h3 h4 h5 h6 => h A c w' L h1 h2 h3 h4 (hb.trans h6) h5)
theorem go_appOne {o : Oper} {a : Act} {w0 w : World} {K : Act -> World -> Prop} {Q : Exit -> Act -> World -> Prop} (s x : Operand) (ho : o.op = .call { callee := .builtin .append, args := #[s, x], argTypes := #[27, 27] })
 (B N : Nat) (v u : Value) (l : List UInt8) (b : UInt8) (hs : a.eval s = v) (hown : Own w B v l) (hN : w.heap.size = N) (hx : a.eval x = .slice (some ⟨N, 0, none⟩) 1 1) (hu : u = BV b) (hlen : l.length + 1 <= 1000000000) (hb : Below B w0 w) (hB : B <= w0.heap.size)
 (h : ∀ A c w' L, Hid (L = l ++ [b]) -> L.length <= l.length + 1 -> l.length + 1 <= L.length -> Own w' B (.slice A L.length c) L -> Below B w0 w' -> K (a.put o.dst (.slice A L.length c)) w') :
 Oper.wp Tryz.prog o a (w.alloc (.cells #[u] 5)) K Q := by
 subst hN; subst hu
 exact go_appB (w0 := w0) s x ho B (w.heap.size + 1) v _ l [b] hs (hown.later ((Below.refl _ _).alloc (Nat.le_refl _) _)) hx (rd_lit w [b] (by simp)) hlen (hb.alloc (Nat.le_trans hB hb.size) _) hB (fun A c w' L h1 h2 h3 h4 h5 _ => h A c w' L h1 h2 h3 h4 h5)
structure MemAt (w : World) (M D : Nat) (img : List UInt8) : Prop where
 data : ∃ c, img.length <= c /\ w.cell? ⟨M, 0, none⟩ = some (.slice (some ⟨D, 0, none⟩) img.length c)
 bytes : ∀ j u, (BVs img)[j]? = some u -> w.cell? ⟨D, j, none⟩ = some u
theorem MemAt.keep {w w' : World} {M D B : Nat} {img : List UInt8} (h : MemAt w M D img) (hb : Below B w w') (hM : M < B) (hD : D < B) : MemAt w' M D img := by
 obtain ⟨⟨c, hc, h1⟩, h2⟩ := h
 exact ⟨⟨c, hc, by rw [hb.cell (p := ⟨M, 0, none⟩) hM]; exact h1⟩, fun j u hu => by rw [hb.cell (p := ⟨D, j, none⟩) hD]; exact h2 j u hu⟩
theorem readAt_any (M D B g cap at' : Nat) (img l : List UInt8) (w : World) (hm : MemAt w M D img) (hown : Own w B (.slice (some ⟨g, 0, none⟩) l.length cap) l) (hl : 0 < l.length) (hfit : at' + l.length <= img.length) (hsz : img.length <= 1000000000) (hB : B <= w.heap.size) :
 Calls Tryz.prog 185 #[.pointer (some ⟨M, 0, none⟩), .slice (some ⟨g, 0, none⟩) l.length cap, .int .i64 at'] w fun e w' =>
  e = .returned (.tuple #[.int .i64 l.length, .nilIface]) /\ Own w' B (.slice (some ⟨g, 0, none⟩) l.length cap) ((img.drop at').take l.length) /\ Below B w w' /\ w.grownBy w' (some g) := by
 obtain ⟨⟨c, hc, h1⟩, h2⟩ := hm
 have H2 := Lib.hid h2
 clear h2
 have hlen : ((img.drop at').take l.length).length = l.length := by simp; omega
 have HL := Lib.hid hlen
 clear hlen
 have hne : ((l.length : Int) == 0) = false := by simp; intro h; simp [h] at hl
 go_enter Tryz.func185, Tryz.ntmps185
 go_wp2_with (refine asList rfl fun K hK => ?_; refine wp_copyMin_of Tryz.underlying27 info5 (.tmp 23) (.tmp 29) rfl B g 0 cap l.length cap l ((img.drop at').take l.length) rfl hown (img.length - at') (c - at') (some ⟨D, at', none⟩) ?_ ?_ rfl ?_ ?_; rotate_left 3; intro w1 L1 hL1 hl1 hl1' ho1 hb1 hg1; refine hK _ _ ?_; clear hK K; rw [HL.out])
 . have e1 : L1 = (img.drop at').take l.length := by
    have h := hL1.out
    have h2 := HL.out
    rw [splice] at h
    simpa [h2] using h
   go_ret2
   refine ⟨rfl, ?_, hb1, hg1⟩
   rw [e1, HL.out] at ho1
   exact ho1
 . rw [HL.out]; exact (Nat.min_eq_right (by omega)).symm
 . rw [HL.out]; omega
 . intro j u hu
   refine ⟨_, rfl, ?_⟩
   have hj : j < ((img.drop at').take l.length).length := by
    have := (List.getElem?_eq_some_iff.1 hu).1
    rwa [length_BVs] at this
   rw [HL.out] at hj
   have e : (⟨D, at', none⟩ : Addr).add j = ⟨D, at' + j, none⟩ := by unfold Addr.add; split <;> simp_all
   rw [e]
   refine H2.out _ _ ?_
   rw [<- hu]
   simp only [BVs, List.getElem?_map, List.getElem?_take, List.getElem?_drop]
   rw [if_pos hj]
theorem readAt_n (M D B g cap at' n : Nat) (img l : List UInt8) (w : World) (hm : MemAt w M D img) (hln : l.length = n) (hown : Own w B (.slice (some ⟨g, 0, none⟩) n cap) l) (hl : 0 < n) (hfit : at' + n <= img.length) (hsz : img.length <= 1000000000) (hB : B <= w.heap.size) :
 Calls Tryz.prog 185 #[.pointer (some ⟨M, 0, none⟩), .slice (some ⟨g, 0, none⟩) n cap, .int .i64 at'] w fun e w' =>
  e = .returned (.tuple #[.int .i64 n, .nilIface]) /\ Own w' B (.slice (some ⟨g, 0, none⟩) n cap) ((img.drop at').take n) /\ Below B w w' /\ w.grownBy w' (some g) := by
 subst hln
 exact readAt_any M D B g cap at' img l w hm hown hl hfit hsz hB
theorem go_makeN {o : Oper} {a : Act} {w0 w : World} {K : Act -> World -> Prop} {Q : Exit -> Act -> World -> Prop} (l c : Operand)
 (ho : o.op = Op.makeSlice 27 l c) (B : Nat) (kl kc : IntKind) (L C : Int) (n m : Nat) (hl : a.eval l = .int kl L) (hc : a.eval c = .int kc C) (hL : L = n) (hC : C = m) (hnm : n <= m) (hm : m <= 1000000000) (hb : Below B w0 w) (hB : B <= w0.heap.size)
 (h : ∀ w' L, Hid (L = List.replicate n 0) -> Hid (L.length = n) -> Own w' B (.slice (some ⟨w.heap.size, 0, none⟩) n m) L -> Below B w0 w' -> w'.heap.size = w.heap.size + 1 -> K (a.put o.dst (.slice (some ⟨w.heap.size, 0, none⟩) n m)) w') :
 Oper.wp Tryz.prog o a w K Q := by
 refine wp_makeB l c ho B kl kc L C n m hl hc hL hC hnm hm (Nat.le_trans hB hb.size) ?_
 intro w' L h1 h2 h3 h4 h5 h6
 have e : L.length = n := by omega
 rw [e] at h4
 exact h w' L h1 e h4 (hb.trans h5) h6
theorem method_ReadAt (a : Addr) (w : World) : (method 510 107 (.pointer (some a)) "ReadAt").run Tryz.prog w = .ok (185, .pointer (some a)) w := by kernel_rfl
end Go.Proofs.YtilgpaeeleknhaaGreatDoor
