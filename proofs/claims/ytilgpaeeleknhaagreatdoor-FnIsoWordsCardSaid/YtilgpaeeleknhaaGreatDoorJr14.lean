/- A part of the proof of laws.FnIsoRock (see the last text). -/
import Derived.Test.YtilgpaeeleknhaaGreatDoorJr13
set_option linter.unusedSimpArgs false
set_option linter.unusedVariables false
set_option maxRecDepth 1000000
set_option maxHeartbeats 8000000
namespace Go.Proofs.YtilgpaeeleknhaaGreatDoor
open Go Go.RowKit
def suspB (a b : UInt8) (body : List UInt8) : List UInt8 := [a, b, u8 (4 + body.length), 1] ++ body
theorem suspB_len (a b : UInt8) (body : List UInt8) : (suspB a b body).length = 4 + body.length := by simp [suspB]; omega
theorem u8_wrap (n : Nat) (h : n <= 1000000000) : IntKind.u8.wrap (IntKind.i64.wrap (4 + (n : Int))) = ((4 + n : Nat) : Int) % 256 := by
 simp [IntKind.wrap, IntKind.signed, IntKind.bits]
 omega
theorem susp_head (a b : UInt8) (n : Nat) (h : n <= 1000000000) : #[Value.int IntKind.u8 (({ data := #[a, b] } : ByteArray)[0]'(by simp [ByteArray.size])).toNat, Value.int IntKind.u8 (({ data := #[a, b] } : ByteArray)[1]'(by simp [ByteArray.size])).toNat,
 Value.int IntKind.u8 (IntKind.u8.wrap (IntKind.i64.wrap (4 + (n : Int)))), Value.int IntKind.u8 1] = (BVs [a, b, u8 (4 + n), 1]).toArray := by
 rw [u8_wrap n h]
 simp only [BVs, List.map, BV_u8]
 rfl
theorem suspW_any (a b : UInt8) (A : Option Addr) (c : Nat) (body : List UInt8) (w : World) (hl : body.length <= 1000) (hrd : Rd w w.heap.size (.slice A body.length c) body) :
 Calls Tryz.prog 51 #[.string ⟨#[a, b]⟩, .slice A body.length c] w fun e w' => (∃ v, e = .returned v /\ Own w' w.heap.size v (suspB a b body)) /\ Below w.heap.size w w' := by
 have hb : Below w.heap.size w (w.alloc (.cells (BVs [a, b, u8 (4 + body.length), 1]).toArray 5)).drew := ((Below.refl _ _).alloc (Nat.le_refl _) _).drew
 have ho : Own (w.alloc (.cells (BVs [a, b, u8 (4 + body.length), 1]).toArray 5)).drew w.heap.size (.slice (some ⟨w.heap.size, 0, none⟩) 4 4) [a, b, u8 (4 + body.length), 1] :=
  (Own.new (w := w) [a, b, u8 (4 + body.length), 1] (by simp [maxLen])).keep (B' := w.heap.size + 1) ((Below.refl _ _).drew) (fun k hk => by simp [Value.ownBlock] at hk; omega)
 have HR := Lib.hid (hrd.keep hb (Nat.le_refl _))
 have HO := Lib.hid ho; have HB := Lib.hid hb; have HE := Lib.hid (susp_head a b body.length (by omega))
 clear hrd ho hb
 go_enter Tryz.func51, Tryz.ntmps51
 go_wp2_with (fail)
 go_region_held3 (fun _ => True) (trivial) (first
  | (refine asStep rfl ?_; rw [HE.out]; refine go_appB (w0 := w) (.tmp 13) (.tmp 14) rfl w.heap.size w.heap.size _ _ [a, b, u8 (4 + body.length), 1] body rfl HO.out rfl HR.out (by simp; omega) HB.out (Nat.le_refl _) ?_; rintro A2 c2 w2 L2 hL2 hl2 hl2' ho2 hb2 hg2))
 all_goals (go_wp2_with (fail); go_ret; exact ⟨⟨_, rfl, by rw [<- show L2 = suspB a b body from hL2.out]; exact ho2⟩, hb2⟩)
theorem both32_len (x : Nat) : (both32 x).length = 8 := length_both32 x
theorem both32W (n : Nat) (w : World) (h1 : n < 4294967296) :
 Calls Tryz.prog 58 #[.int .u32 n] w fun e w' => ∃ A c, e = .returned (.slice A 8 c) /\ Own w' w.heap.size (.slice A 8 c) (both32 n) /\ Below w.heap.size w w' := by
 refine (both32_any n w h1).mono ?_
 rintro e w' ⟨rfl, rfl⟩
 exact ⟨_, _, rfl, Own.new (both32 n) (by rw [both32_len]; simp [maxLen]), (Below.refl _ _).alloc (Nat.le_refl _) _⟩
def ceB (x y z : Nat) : List UInt8 := suspB 67 69 (both32 x ++ both32 y ++ both32 z)
theorem rockCE_any (x y z : Nat) (w : World) (hx : x < 4294967296) (hy : y < 4294967296) (hz : z < 4294967296) :
 Calls Tryz.prog 55 #[.int .u32 x, .int .u32 y, .int .u32 z] w fun e w' => (∃ v, e = .returned v /\ Own w' w.heap.size v (ceB x y z)) /\ Below w.heap.size w w' := by
 go_enter Tryz.func55, Tryz.ntmps55
 go_wp2_with (first
  | (go_at_call 51; refine (suspW_any 67 69 _ _ L5 w5 (by rw [both32_len] at hl5; omega) ho5.rd).mono ?_; rintro e w6 ⟨⟨v6, rfl, ho6⟩, hx6⟩; have hb6 := hb5.trans (hx6.mono hb5.size))
  | (at_builtin; refine asList rfl fun K hK => ?_; refine go_appB (w0 := w) (w := w4) (.tmp 14) (.tmp 16) rfl w.heap.size w4.heap.size _ _ L3 (both32 z) rfl ho3' rfl ho4.rd (by rw [both32_len]; omega) hb4 (Nat.le_refl _) ?_; rintro A5 c5 w5 L5 hL5 hl5 hl5' ho5 hb5 hg5; clear hg5; refine hK _ _ ?_; clear hK K)
  | (go_at_call 58; refine (both32W z w3 hz).mono ?_; rintro e w4 ⟨A4, c4, rfl, ho4, hx4⟩; have ho3' := ho3.later hx4; have hb4 := hb3.trans (hx4.mono hb3.size))
  | (at_builtin; refine asList rfl fun K hK => ?_; refine go_appB (w0 := w) (w := w2) (.tmp 10) (.tmp 12) rfl w.heap.size w2.heap.size _ _ (both32 x) (both32 y) rfl ho1' rfl ho2.rd (by rw [both32_len, both32_len]; omega) hb2 (Nat.le_refl _) ?_; rintro A3 c3 w3 L3 hL3 hl3 hl3' ho3 hb3 hg3; clear hg3; rw [both32_len, both32_len] at hl3; refine hK _ _ ?_; clear hK K)
  | (go_at_call 58; refine (both32W y w1 hy).mono ?_; rintro e w2 ⟨A2, c2, rfl, ho2, hx2⟩; have ho1' := ho1.later hx2; have hb2 := hb1.trans (hx2.mono hb1.size))
  | (go_at_call 58; go_must (refine (both32W x w hx).mono ?_); rintro e w1 ⟨A1, c1, rfl, ho1, hb1⟩))
 go_ret
 refine ⟨⟨_, rfl, ?_⟩, hb6⟩
 unfold ceB
 rw [<- hL3.out, <- hL5.out]
 exact ho6.lower hb5.size
def erId : List UInt8 := [82, 82, 73, 80, 95, 49, 57, 57, 49, 65]
def erText : List UInt8 := [84, 72, 69, 32, 82, 79, 67, 75, 32, 82, 73, 68, 71, 69, 32, 73, 78, 84, 69, 82, 67, 72, 65, 78, 71, 69, 32, 80, 82, 79, 84, 79, 67, 79, 76, 32, 80, 82, 79, 86, 73, 68, 69, 83, 32, 83, 85, 80, 80, 79, 82, 84, 32, 70, 79, 82, 32, 80, 79, 83, 73, 88, 32, 70, 73, 76, 69, 32, 83, 89, 83, 84, 69, 77, 32, 83, 69, 77, 65, 78, 84, 73, 67, 83]
def erSrc : List UInt8 := [80, 76, 69, 65, 83, 69, 32, 67, 79, 78, 84, 65, 67, 84, 32, 68, 73, 83, 67, 32, 80, 85, 66, 76, 73, 83, 72, 69, 82, 32, 70, 79, 82, 32, 83, 80, 69, 67, 73, 70, 73, 67, 65, 84, 73, 79, 78, 32, 83, 79, 85, 82, 67, 69, 46]
def erB : List UInt8 := suspB 69 82 ([10, 84, 55, 1] ++ erId ++ erText ++ erSrc)
theorem rockER_any (w : World) :
 Calls Tryz.prog 29 #[] w fun e w' => (∃ v, e = .returned v /\ Own w' w.heap.size v erB) /\ Below w.heap.size w w' := by
 have hb1 : Below w.heap.size w (w.alloc (.cells #[.int .u8 10, .int .u8 84, .int .u8 55, .int .u8 1] 5)) := (Below.refl _ _).alloc (Nat.le_refl _) _
 have ho1 : Own (w.alloc (.cells #[.int .u8 10, .int .u8 84, .int .u8 55, .int .u8 1] 5)) w.heap.size (.slice (some ⟨w.heap.size, 0, none⟩) 4 4) [10, 84, 55, 1] := Own.new (w := w) [10, 84, 55, 1] (by simp [maxLen])
 have HO := Lib.hid ho1; have HB := Lib.hid hb1
 clear ho1 hb1
 go_enter Tryz.func29, Tryz.ntmps29
 go_wp2_with (first
  | (go_at_call 51; refine (suspW_any 69 82 _ _ L4 w4 (by omega) ho4.rd).mono ?_; rintro e w5 ⟨⟨v5, rfl, ho5⟩, hx5⟩; have hb5 := hb4.trans (hx5.mono hb4.size))
  | (at_builtin; refine asList rfl fun K hK => ?_; refine go_appS (w0 := w) (w := w3) (.tmp 21) (.tmp 22) rfl w.heap.size _ L3 ⟨erSrc.toArray⟩ rfl ho3 rfl (by have : (⟨erSrc.toArray⟩ : ByteArray).size = 55 := rfl; omega) hb3 (Nat.le_refl _) ?_; rintro A4 c4 w4 L4 hL4 hl4 hl4' ho4 hb4 hg4; clear hg4; have z4 : (⟨erSrc.toArray⟩ : ByteArray).size = 55 := rfl; rw [z4] at hl4; clear z4; refine hK _ _ ?_; clear hK K)
  | (at_builtin; refine asList rfl fun K hK => ?_; refine go_appS (w0 := w) (w := w2) (.tmp 18) (.tmp 19) rfl w.heap.size _ L2 ⟨erText.toArray⟩ rfl ho2 rfl (by have : (⟨erText.toArray⟩ : ByteArray).size = 84 := rfl; omega) hb2 (Nat.le_refl _) ?_; rintro A3 c3 w3 L3 hL3 hl3 hl3' ho3 hb3 hg3; clear hg3; have z3 : (⟨erText.toArray⟩ : ByteArray).size = 84 := rfl; rw [z3] at hl3; clear z3; refine hK _ _ ?_; clear hK K)
  | (at_builtin; refine asList rfl fun K hK => ?_; refine go_appS (w0 := w) (.tmp 15) (.tmp 16) rfl w.heap.size _ [10, 84, 55, 1] ⟨erId.toArray⟩ rfl HO.out rfl (by decide) HB.out (Nat.le_refl _) ?_; rintro A2 c2 w2 L2 hL2 hl2 hl2' ho2 hb2 hg2; clear hg2; have z2 : ([10, 84, 55, 1] : List UInt8).length + (⟨erId.toArray⟩ : ByteArray).size = 14 := rfl; rw [z2] at hl2; clear z2; refine hK _ _ ?_; clear hK K))
 go_ret
 refine ⟨⟨_, rfl, ?_⟩, hb5⟩
 have e : L4 = [10, 84, 55, 1] ++ erId ++ erText ++ erSrc := by rw [hL4.out, hL3.out, hL2.out]
 unfold erB
 rw [<- e]
 exact ho5.lower hb4.size
theorem isoTimeW (t : Int) (w : World) (h0 : -9223372036854775808 <= t) (h1 : t <= 9223372036854775807) :
 Calls Tryz.prog 74 #[.int .i64 t] w fun e w' => ∃ A c, e = .returned (.slice A 7 c) /\ Own w' w.heap.size (.slice A 7 c) (isoTimeB t) /\ Below w.heap.size w w' := by
 refine (isoTime_any t w h0 h1).mono ?_
 rintro e w' ⟨rfl, rfl⟩
 exact ⟨_, _, rfl, Own.new (isoTimeB t) (by rw [length_isoTimeB]; simp [maxLen]), (Below.refl _ _).alloc (Nat.le_refl _) _⟩
theorem suspW_of (a b : UInt8) (A : Option Addr) (c n : Nat) (body : List UInt8) (w : World) (hn : n = body.length) (hl : n <= 1000) (hrd : Rd w w.heap.size (.slice A n c) body) :
 Calls Tryz.prog 51 #[.string ⟨#[a, b]⟩, .slice A n c] w fun e w' => (∃ v, e = .returned v /\ Own w' w.heap.size v (suspB a b body)) /\ Below w.heap.size w w' := by
 subst hn
 exact suspW_any a b A c body w hl hrd
def tfBody (t : Int) : Nat -> List UInt8
 | 0 => [14]
 | k + 1 => tfBody t k ++ isoTimeB t
theorem tfBody_len (t : Int) : ∀ k, (tfBody t k).length = 1 + 7 * k
 | 0 => rfl
 | k + 1 => by rw [tfBody, List.length_append, tfBody_len t k, length_isoTimeB]; omega
def tfB (t : Int) : List UInt8 := suspB 84 70 (tfBody t 3)
theorem rockTF_any (t : Int) (w : World) (h0 : -9223372036854775808 <= t) (h1 : t <= 9223372036854775807) :
 Calls Tryz.prog 48 #[.int .i64 t] w fun e w' => (∃ v, e = .returned v /\ Own w' w.heap.size v (tfB t)) /\ Below w.heap.size w w' := by
 have hb1 : Below w.heap.size w (w.alloc (.cells #[.int .u8 14] 5)) := (Below.refl _ _).alloc (Nat.le_refl _) _
 have ho1 : Own (w.alloc (.cells #[.int .u8 14] 5)) w.heap.size (.slice (some ⟨w.heap.size, 0, none⟩) 1 1) [14] := Own.new (w := w) [14] (by simp [maxLen])
 have HO := Lib.hid ho1; have HB := Lib.hid hb1
 have HT := Lib.hid (fun W => isoTimeW t W h0 h1)
 clear ho1 hb1
 go_enter Tryz.func48, Tryz.ntmps48
 go_wp2_with (fail)
 go_loopw [3, 5] (fun bv iv wr => ∃ (k n c : Nat) (A : Option Addr), k <= 3 /\ n <= 1 + 7 * k /\ Hid (n = (tfBody t k).length) /\ iv = .int .i64 k /\ bv = .slice A n c /\ Own wr w.heap.size (.slice A n c) (tfBody t k) /\ Below w.heap.size w wr) (fun _ iv _ => 3 - (intOf iv).toNat)
 case atStart => exact ⟨0, 1, 1, _, by decide, by decide, rfl, rfl, rfl, HO.out, HB.out⟩
 case round =>
  obtain ⟨k, n, c, A, hk, hn, HN, rfl, rfl, ho, hb⟩ := hrel
  by_cases h3 : k < 3
  . go_wp2_with (first
     | (at_builtin; refine asList rfl fun K hK => ?_; refine go_appB (w0 := w) (w := w2) (.tmp 7) (.tmp 9) rfl w.heap.size w2.heap.size _ _ (tfBody t k) (isoTimeB t) rfl ho' rfl ho2.rd (by rw [length_isoTimeB, <- HN.out]; omega) hb2 (Nat.le_refl _) ?_; rintro A3 c3 w3 L3 hL3 hl3 hl3' ho3 hb3 hg3; clear hg3; have HL3 : Hid (L3 = tfBody t (k + 1)) := hL3; have hl4 : L3.length <= 1 + 7 * (k + 1) := by rw [HL3.out, tfBody_len]; omega
        clear hl3 hl3'; refine hK _ _ ?_; clear hK K)
     | (go_at_call 74; go_must (refine (HT.out wr).mono ?_); rintro e w2 ⟨A2, c2, rfl, ho2, hx2⟩; have ho' := ho.later hx2; have hb2 := hb.trans (hx2.mono hb.size)))
    go_roundw
    case rel => exact ⟨k + 1, L3.length, c3, A3, by omega, hl4, by rw [HL3.out]; exact rfl, by simp, rfl, by rw [<- HL3.out]; exact ho3, hb3⟩
    case measure => show 3 - ((k : Int) + 1).toNat < 3 - (k : Int).toNat; omega
  . have e : k = 3 := by omega
    subst e
    go_wp2_with (first
     | (go_at_call 51; refine (suspW_of 84 70 A c n (tfBody t 3) wr HN.out (by omega) ho.rd).mono ?_; rintro e w5 ⟨⟨v5, rfl, ho5⟩, hx5⟩; have hb5 := hb.trans (hx5.mono hb.size)))
    go_ret
    exact ⟨⟨_, rfl, ho5.lower hb.size⟩, hb5⟩
def nmB (s : List UInt8) : List UInt8 := suspB 78 77 (0 :: s)
theorem rockNM_any (s : ByteArray) (w : World) (hs : s.size <= 200) :
 Calls Tryz.prog 49 #[.string s] w fun e w' => (∃ A c, e = .returned (.slice A (nmB s.data.toList).length c) /\ Own w' w.heap.size (.slice A (nmB s.data.toList).length c) (nmB s.data.toList)) /\ Below w.heap.size w w' := by
 have hsl : s.data.toList.length = s.size := by rw [Array.length_toList]; rfl
 have HS := Lib.hid hsl
 clear hsl
 go_enter Tryz.func49, Tryz.ntmps49
 go_wp2_with (fail)
 go_loopw [0, 3] (fun sv ov wr => sv = .string s /\ ov = .slice none 0 0 /\ wr = w) (fun _ _ _ => 0)
 case atStart => exact ⟨rfl, rfl, rfl⟩
 case round =>
  obtain ⟨rfl, rfl, hw⟩ := hrel
  have hw' := hw.symm
  clear hw
  subst hw'
  have hb1 : Below w.heap.size w (w.alloc (.cells #[.int .u8 0] 5)) := (Below.refl _ _).alloc (Nat.le_refl _) _
  have ho1 : Own (w.alloc (.cells #[.int .u8 0] 5)) w.heap.size (.slice (some ⟨w.heap.size, 0, none⟩) 1 1) [0] := Own.new (w := w) [0] (by simp [maxLen])
  have HO := Lib.hid ho1; have HB := Lib.hid hb1
  clear ho1 hb1
  go_wp2_with (first
   | (at_builtin; refine asList rfl fun K hK => ?_; refine go_appB (w0 := w) (w := w4) (.tmp 16) (.tmp 20) rfl w.heap.size w4.heap.size _ _ [] (suspB 78 77 L2) rfl (Own.nil _ _) rfl ho4.rd (by rw [suspB_len, List.length_nil]; omega) hb4 (Nat.le_refl _) ?_; rintro A5 c5 w5 L5 hL5 hl5 hl5' ho5 hb5 hg5; clear hg5 hl5 hl5'; refine hK _ _ ?_; clear hK K)
   | (go_at_call 51; refine (suspW_any 78 77 _ _ L2 w2 (by omega) ho2.rd).mono ?_; rintro e w4 ⟨⟨v4, rfl, ho4⟩, hx4⟩; have hb4 := hb2.trans (hx4.mono hb2.size))
   | (at_builtin; refine asList rfl fun K hK => ?_; refine go_appS (w0 := w) (.tmp 17) (.tmp 18) rfl w.heap.size _ [0] s rfl HO.out rfl (by simp; omega) HB.out (Nat.le_refl _) ?_; rintro A2 c2 w2 L2 hL2 hl2 hl2' ho2 hb2 hg2; clear hg2; have hl3 : L2.length <= 201 := by simp at hl2; omega
      clear hl2 hl2'; refine hK _ _ ?_; clear hK K))
  go_ret
  have e : L5 = nmB s.data.toList := by rw [hL5.out, hL2.out]; rfl
  rw [<- e]
  exact ⟨⟨A5, c5, rfl, ho5⟩, hb5⟩
end Go.Proofs.YtilgpaeeleknhaaGreatDoor
