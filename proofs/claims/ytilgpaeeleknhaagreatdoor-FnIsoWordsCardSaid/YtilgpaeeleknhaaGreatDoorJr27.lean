/- A part of the proof of laws.FnIsoRock (see the last text). -/
import Derived.Test.YtilgpaeeleknhaaGreatDoorJr23
import Derived.Test.YtilgpaeeleknhaaGreatDoorJr26
import Derived.Test.YtilgpaeeleknhaaGreatDoorJr15
set_option linter.unusedSimpArgs false
set_option linter.unusedVariables false
set_option maxRecDepth 1000000
set_option maxHeartbeats 8000000
namespace Go.Proofs.YtilgpaeeleknhaaGreatDoor
open Go Go.RowKit
def spB : List UInt8 := suspB 83 80 [190, 239, 0]
theorem sp_any (D o c : Nat) (w : World) (hs : SrcO w D o spB) (hc : 7 <= c) :
 Calls Tryz.prog 154 #[.slice (some ⟨D, o, none⟩) 7 c] w fun e w' => e = .returned (.tuple #[.iface 249 (.agg #[.int .u8 0]), .nilIface]) /\ Below w.heap.size w w' := by
 have K : ∀ W, Below w.heap.size w W -> SrcO W D o spB := fun W h => hs.later h
 have c2 : w.cell? ⟨D, o + 2, none⟩ = some (.int .u8 7) := hs.2 2 _ rfl
 have c3 : w.cell? ⟨D, o + 3, none⟩ = some (.int .u8 1) := hs.2 3 _ rfl
 have HK := Lib.hid K
 have z1 : (6 : Int) <= (c : Int) := by omega
 have z2 : ¬ c = 4 := by omega
 clear K hs
 go_enter Tryz.func154, Tryz.ntmps154
 go_upto_region 10 with (fail)
 go_region_held3 (fun _ => True) (trivial) (first
  | (go_at_call 163; go_must (refine (Tryz.binary_BE_Uint16 D (o + 4) 2 _ _ _ _ (by decide) ((HK.out _ (Below.refl _ _).drew).2 4 _ rfl) ((HK.out _ (Below.refl _ _).drew).2 5 _ rfl)).mono ?_); go_must (rintro e w2 ⟨rfl, hb2⟩)))
 have hw2 : Below w.heap.size w w2 := (Below.refl _ _).drew.trans hb2
 have c6 : w2.cell? ⟨D, o + 6, none⟩ = some (.int .u8 0) := (HK.out _ hw2).2 6 _ rfl
 clear c2 c3
 go_wp2
 go_ret2
 exact ⟨rfl, hw2⟩
theorem ce_any (D o c x y z : Nat) (w : World) (hs : SrcO w D o (ceB x y z)) (hc : 28 <= c) (hx : x < 4294967296) (hy : y < 4294967296) (hz : z < 4294967296) :
 Calls Tryz.prog 159 #[.slice (some ⟨D, o, none⟩) 28 c] w fun e w' => e = .returned (.tuple #[.iface 279 (.agg #[.int .u32 x, .int .u32 y, .int .u32 z]), .nilIface]) /\ Below w.heap.size w w' := by
 have K : ∀ W, Below w.heap.size w W -> SrcO W D o (ceB x y z) := fun W h => hs.later h
 have c2 : w.cell? ⟨D, o + 2, none⟩ = some (.int .u8 28) := hs.2 2 _ rfl
 have c3 : w.cell? ⟨D, o + 3, none⟩ = some (.int .u8 1) := hs.2 3 _ rfl
 have HK := Lib.hid K
 have z1 : (8 : Int) <= (c : Int) := by omega
 have z2 : ¬ c = 4 := by omega
 have z3 : (16 : Int) <= (c : Int) := by omega
 have z4 : ¬ c = 12 := by omega
 have z5 : (24 : Int) <= (c : Int) := by omega
 have z6 : ¬ c = 20 := by omega
 clear K hs
 go_enter Tryz.func159, Tryz.ntmps159
 go_upto_region 10 with (fail)
 go_region_held3 (fun _ => True) (trivial) (first
  | (go_at_call 100; go_must (refine (Tryz.binary_LE_Uint32 D (o + 4) 4 _ _ _ _ _ _ (by decide) ((HK.out _ (Below.refl _ _).drew).2 4 _ rfl) ((HK.out _ (Below.refl _ _).drew).2 5 _ rfl) ((HK.out _ (Below.refl _ _).drew).2 6 _ rfl) ((HK.out _ (Below.refl _ _).drew).2 7 _ rfl)).mono ?_); go_must (rintro e w2 ⟨rfl, hb2⟩); rw [leNat_le _ hx]))
 have hw2 : Below w.heap.size w w2 := (Below.refl _ _).drew.trans hb2
 clear c2 c3 hb2
 go_wp2_with (fail)
 go_region_held3 (fun _ => True) (trivial) (first
  | (go_at_call 100; go_must (refine (Tryz.binary_LE_Uint32 D (o + 12) 4 _ _ _ _ _ _ (by decide) ((HK.out _ hw2.drew).2 12 _ rfl) ((HK.out _ hw2.drew).2 13 _ rfl) ((HK.out _ hw2.drew).2 14 _ rfl) ((HK.out _ hw2.drew).2 15 _ rfl)).mono ?_); go_must (rintro e w3 ⟨rfl, hb3⟩); rw [leNat_le _ hy]))
 have hw3 : Below w.heap.size w w3 := hw2.drew.trans (hb3.mono hw2.size)
 clear hb3
 go_wp2_with (fail)
 go_region_held3 (fun _ => True) (trivial) (first
  | (go_at_call 100; go_must (refine (Tryz.binary_LE_Uint32 D (o + 20) 4 _ _ _ _ _ _ (by decide) ((HK.out _ hw3.drew).2 20 _ rfl) ((HK.out _ hw3.drew).2 21 _ rfl) ((HK.out _ hw3.drew).2 22 _ rfl) ((HK.out _ hw3.drew).2 23 _ rfl)).mono ?_); go_must (rintro e w4 ⟨rfl, hb4⟩); rw [leNat_le _ hz]))
 have hw4 : Below w.heap.size w w4 := hw3.drew.trans (hb4.mono hw3.size)
 clear hb4
 go_wp2
 go_ret2
 exact ⟨rfl, hw4⟩
theorem SrcO.rd0 {w : World} {D o n c : Nat} {l m : List UInt8} (h : SrcO w D o l) (hm : m.length = n) (hl : ∀ j, j < n -> l[j]? = m[j]?) : RdO w (fun _ => True) (.slice (some ⟨D, o, none⟩) n c) m := by
 have := h.rd (k := 0) (c := c) hm (fun j hj => by rw [Nat.zero_add]; exact hl j hj)
 rwa [Nat.add_zero] at this
theorem raw_any (D o n c : Nat) (a b : UInt8) (body : List UInt8) (w : World) (hs : SrcO w D o (suspB a b body)) (hl : 4 + body.length = n) (h4 : 4 < n) (hn : n <= 255) (hc : n <= c) :
 Calls Tryz.prog 145 #[.slice (some ⟨D, o, none⟩) n c] w fun e w' => (∃ cs, e = .returned (.iface 331 (.agg cs))) /\ Below w.heap.size w w' := by
 have K : ∀ W, Below w.heap.size w W -> SrcO W D o (suspB a b body) := fun W h => hs.later h
 have c3 : w.cell? ⟨D, o + 3, none⟩ = some (.int .u8 1) := hs.2 3 _ rfl
 have HK := Lib.hid K
 have z1 : (2 : Int) <= (c : Int) := by omega
 clear K hs
 go_enter Tryz.func145, Tryz.ntmps145
 go_wp2_with (first
  | (refine atConvert 27 9 ?_; refine asList rfl fun KK hKK => ?_; go_must (refine wp_toStr (.tmp 10) rfl (fun _ => True) _ [a, b] rfl ((HK.out _ (Below.refl _ _)).rd0 (n := 2) rfl (fun j hj => by match j, hj with | 0, _ => rfl | 1, _ => rfl)) ?_); refine hKK _ _ ?_; clear hKK KK)
  | (at_make; refine asList rfl fun KK hKK => ?_; go_must (refine go_makeN (w0 := w) (.const (.int .i64 0)) (.const (.int .i64 0)) rfl w.heap.size _ _ _ _ 0 0 rfl rfl rfl rfl (Nat.le_refl _) (by decide) (Below.refl _ _) (Nat.le_refl _) ?_); intro w3 L3 hL3 hl3 hO3 hb3 hs3; refine hKK _ _ ?_; clear hKK KK))
 go_ret
 exact ⟨⟨_, rfl⟩, hb3⟩
theorem get_part (l m : List UInt8) (k n : Nat) (h : (l.drop k).take n = m) : ∀ j, j < n -> l[k + j]? = m[j]? := by
 intro j hj
 rw [<- h, List.getElem?_take, if_pos hj, List.getElem?_drop]
theorem er_any (D o c : Nat) (w : World) (hs : SrcO w D o erB) (hc : 157 <= c) :
 Calls Tryz.prog 157 #[.slice (some ⟨D, o, none⟩) 157 c] w fun e w' => e = .returned (.tuple #[.iface 253 (.agg #[.string (ofL erId), .string (ofL erText), .string (ofL erSrc), .int .u8 1]), .nilIface]) /\ Below w.heap.size w w' := by
 have c2 : w.cell? ⟨D, o + 2, none⟩ = some (.int .u8 157) := hs.2 2 _ rfl
 have c3 : w.cell? ⟨D, o + 3, none⟩ = some (.int .u8 1) := hs.2 3 _ rfl
 have c4 : w.cell? ⟨D, o + 4, none⟩ = some (.int .u8 10) := hs.2 4 _ rfl
 have c5 : w.cell? ⟨D, o + 5, none⟩ = some (.int .u8 84) := hs.2 5 _ rfl
 have c6 : w.cell? ⟨D, o + 6, none⟩ = some (.int .u8 55) := hs.2 6 _ rfl
 have c7 : w.cell? ⟨D, o + 7, none⟩ = some (.int .u8 1) := hs.2 7 _ rfl
 have r1 : RdO w (fun _ => True) (.slice (some ⟨D, o + 8, none⟩) 10 (c - 8)) erId := hs.rd (n := 10) rfl (get_part erB erId 8 10 (by rfl))
 have r2 : RdO w (fun _ => True) (.slice (some ⟨D, o + 18, none⟩) 84 (c - 18)) erText := hs.rd (n := 84) rfl (get_part erB erText 18 84 (by rfl))
 have r3 : RdO w (fun _ => True) (.slice (some ⟨D, o + 102, none⟩) 55 (c - 102)) erSrc := hs.rd (n := 55) rfl (get_part erB erSrc 102 55 (by rfl))
 have R1 := Lib.hid r1; have R2 := Lib.hid r2; have R3 := Lib.hid r3
 have z1 : (18 : Int) <= (c : Int) := by omega
 have z2 : ¬ c = 8 := by omega
 have z3 : (102 : Int) <= (c : Int) := by omega
 have z4 : ¬ c = 18 := by omega
 have z5 : (157 : Int) <= (c : Int) := by omega
 have z6 : ¬ c = 102 := by omega
 clear r1 r2 r3 hs
 go_enter Tryz.func157, Tryz.ntmps157
 go_wp2_with (first
  | (refine atConvert 27 9 ?_; refine asList rfl fun KK hKK => ?_; refine wp_toStr (.tmp 57) rfl (fun _ => True) _ erId rfl R1.out ?_; refine hKK _ _ ?_; clear hKK KK)
  | (refine atConvert 27 9 ?_; refine asList rfl fun KK hKK => ?_; refine wp_toStr (.tmp 64) rfl (fun _ => True) _ erText rfl R2.out ?_; refine hKK _ _ ?_; clear hKK KK)
  | (refine atConvert 27 9 ?_; refine asList rfl fun KK hKK => ?_; go_must (refine wp_toStr (.tmp 71) rfl (fun _ => True) _ erSrc rfl R3.out ?_); refine hKK _ _ ?_; clear hKK KK))
 go_ret2
 exact ⟨rfl, Below.refl _ _⟩
def nmV (s : List UInt8) : Value := .iface 366 (.agg #[.bool false, .bool false, .bool false, .string (ofL s)])
theorem nm_any (R : Value) (D o n c : Nat) (s : List UInt8) (w : World) (hs : SrcO w D o (nmB s)) (hn : 5 + s.length = n) (h1 : 1 <= s.length) (h2 : s.length <= 200) (hc : n <= c) :
 Calls Tryz.prog 250 #[R, .slice (some ⟨D, o, none⟩) n c] w fun e w' => e = .returned (.tuple #[nmV s, .nilIface]) /\ Below w.heap.size w w' := by
 have hb : u8 (4 + (0 :: s : List UInt8).length) = u8 n := by simp only [List.length_cons]; congr 1; omega
 have c2 : w.cell? ⟨D, o + 2, none⟩ = some (.int .u8 n) := by
  rw [hs.2 2 (u8 (4 + (0 :: s : List UInt8).length)) rfl, hb, bv_u8 n (by omega)]
 have c3 : w.cell? ⟨D, o + 3, none⟩ = some (.int .u8 1) := hs.2 3 _ rfl
 have c4 : w.cell? ⟨D, o + 4, none⟩ = some (.int .u8 0) := hs.2 4 _ rfl
 have r1 : RdO w (fun _ => True) (.slice (some ⟨D, o + 5, none⟩) (n - 5) (c - 5)) s := hs.rd (n := n - 5) (by omega) (by
  intro j hj
  show (([78, 77, u8 (4 + (0 :: s : List UInt8).length), 1, 0] : List UInt8) ++ s)[5 + j]? = _
  rw [List.getElem?_append_right (by simp)]
  congr 1; simp)
 have R1 := Lib.hid r1
 have z1 : ¬ c = 5 := by omega
 have z2 : (5 : Int) <= (n : Int) := by omega
 have z3 : (n : Int) <= (c : Int) := by omega
 clear r1 hs hb
 go_enter Tryz.func250, Tryz.ntmps250
 go_wp2_with (first
  | (refine atConvert 27 9 ?_; refine asList rfl fun KK hKK => ?_; go_must (refine wp_toStr (.tmp 45) rfl (fun _ => True) _ s rfl R1.out ?_); refine hKK _ _ ?_; clear hKK KK))
 go_ret2
 exact ⟨rfl, Below.refl _ _⟩
theorem Below.next {a b c : World} (h : Below a.heap.size a b) (hb : Below b.heap.size b c) : Below a.heap.size a c := h.trans (hb.mono h.size)
theorem SrcO.get {w : World} {D o : Nat} {l : List UInt8} (h : SrcO w D o l) (j : Nat) (b : UInt8) (hj : l[j]? = some b) : w.cell? ⟨D, o + j, none⟩ = some (BV b) := h.2 j b hj
theorem atSl {P : Program} {f : FuncId} {x : Value} {D o n c : Nat} {w : World} {Q : Ending -> World -> Prop} (h : Calls P f #[x, .slice (some ⟨D, o, none⟩) n c] w Q) : Calls P f #[x, .slice (some ⟨D, o, none⟩) n c] w Q := h
def goKind (f : File) : Nat := if f.dir then 2147483648 else if f.target.toList.isEmpty then 0 else 134217728
def goMode (f : File) : Nat := goKind f ||| f.perm
theorem perm_facts : ∀ p < 512, ((p &&& 4095) = p) /\ ∀ k ∈ [16384, 32768, 40960], ((p ||| k) &&& 511) = p /\ ((p ||| k) &&& 2048) = 0 /\ ((p ||| k) &&& 1024) = 0 /\ ((p ||| k) &&& 512) = 0 /\ ((p ||| k) &&& 61440) = k := by decide +kernel
theorem perm_or : ∀ p < 512, (0 ||| p) = p /\ (p ||| 134217728) = (134217728 ||| p) /\ (p ||| 2147483648) = (2147483648 ||| p) /\ (134217728 ||| p) < 4294967296 /\ (2147483648 ||| p) < 4294967296 := by
 intro p hp
 refine ⟨Nat.zero_or p, Nat.or_comm _ _, Nat.or_comm _ _, ?_, ?_⟩
 . exact Nat.or_lt_two_pow (n := 32) (by decide) (by omega)
 . exact Nat.or_lt_two_pow (n := 32) (by decide) (by omega)
def pxV (m l u g : Nat) : Value := .iface 359 (.agg #[.int .u32 m, .int .i64 36, .int .u32 l, .int .u32 u, .int .u32 g, .int .u64 0])
theorem and_fact (m b r : Nat) (hm : m < 4294967296) (hb : b < 4294967296) (h : m &&& b = r) : bits .and .u32 (m : Int) (b : Int) = (r : Int) := by
 rw [u32_and_nat _ _ hm hb, h]
theorem or_fact (m b r : Nat) (hm : m < 4294967296) (hb : b < 4294967296) (h : m ||| b = r) : bits .or .u32 (m : Int) (b : Int) = (r : Int) := by
 rw [u32_or_nat _ _ hm hb, h]
theorem px_core (R D o c m p k q l u g : Nat) (w : World) (hs : SrcO w D o (suspB 80 88 (manyB [m, l, u, g]))) (hc : 36 <= c) (hR : w.cell? ⟨R, 4, none⟩ = some (.int .i64 36)) (hm : m < 4294967296) (hl : l < 4294967296) (hu : u < 4294967296) (hg : g < 4294967296)
 (e1 : bits .and .u32 (m : Int) 511 = (p : Int)) (e2 : bits .or .u32 0 (p : Int) = (p : Int)) (e3 : bits .and .u32 (m : Int) 2048 = 0) (e4 : bits .and .u32 (m : Int) 1024 = 0) (e5 : bits .and .u32 (m : Int) 512 = 0) (e6 : bits .and .u32 (m : Int) 61440 = (k : Int))
 (hk : (k = 16384 /\ bits .or .u32 (p : Int) 2147483648 = (q : Int)) \/ (k = 40960 /\ bits .or .u32 (p : Int) 134217728 = (q : Int)) \/ (k = 32768 /\ q = p)) :
 Calls Tryz.prog 247 #[.pointer (some ⟨R, 0, none⟩), .slice (some ⟨D, o, none⟩) 36 c] w fun e w' => e = .returned (.tuple #[pxV q l u g, .nilIface]) /\ Below w.heap.size w w' := by
 have K : ∀ W, Below w.heap.size w W -> SrcO W D o (suspB 80 88 (manyB [m, l, u, g])) := fun W h => hs.later h
 have c2 : w.cell? ⟨D, o + 2, none⟩ = some (.int .u8 36) := hs.2 2 _ rfl
 have c3 : w.cell? ⟨D, o + 3, none⟩ = some (.int .u8 1) := hs.2 3 _ rfl
 have HK := Lib.hid K
 have z1 : (8 : Int) <= (c : Int) := by omega
 have z2 : ¬ c = 4 := by omega
 have z3 : (16 : Int) <= (c : Int) := by omega
 have z4 : ¬ c = 12 := by omega
 have z5 : (24 : Int) <= (c : Int) := by omega
 have z6 : ¬ c = 20 := by omega
 have z7 : (32 : Int) <= (c : Int) := by omega
 have z8 : ¬ c = 28 := by omega
 clear K hs
 go_enter Tryz.func247, Tryz.ntmps247
 go_upto_region 10 with (fail)
 go_region_held3 (fun _ => True) (trivial) (first
  | (go_at_call 100; go_must (refine (Tryz.binary_LE_Uint32 D (o + 4) 4 _ _ _ _ _ _ (by decide) ((HK.out _ (Below.refl _ _).drew).2 4 _ rfl) ((HK.out _ (Below.refl _ _).drew).2 5 _ rfl) ((HK.out _ (Below.refl _ _).drew).2 6 _ rfl) ((HK.out _ (Below.refl _ _).drew).2 7 _ rfl)).mono ?_); go_must (rintro e w2 ⟨rfl, hb2⟩); rw [leNat_le _ hm]))
 have hw2 : Below w.heap.size w w2 := (Below.refl _ _).drew.trans hb2
 clear c2 c3 hb2 hR
 rcases hk with ⟨rfl, hq⟩ | ⟨rfl, hq⟩ | ⟨rfl, rfl⟩
 all_goals
  go_upto_region 35 with (fail)
  clear e1 e2 e3 e4 e5 e6
  go_region_held3 (fun W => Below w.heap.size w W) (first | exact hw2.drew | exact Below.next (by assumption) hb9) (first
   | (go_at_call 100; with_reducible refine atSl (o := o + 12) ?_; go_must (refine (Tryz.binary_LE_Uint32 D (o + 12) 4 _ _ _ _ _ _ (by decide) (SrcO.get (HK.out _ (by assumption)) 12 _ rfl) (SrcO.get (HK.out _ (by assumption)) 13 _ rfl) (SrcO.get (HK.out _ (by assumption)) 14 _ rfl) (SrcO.get (HK.out _ (by assumption)) 15 _ rfl)).mono ?_); go_must (rintro e w9 ⟨rfl, hb9⟩); rw [leNat_le _ hl])
   | (go_at_call 100; with_reducible refine atSl (o := o + 20) ?_; go_must (refine (Tryz.binary_LE_Uint32 D (o + 20) 4 _ _ _ _ _ _ (by decide) (SrcO.get (HK.out _ (by assumption)) 20 _ rfl) (SrcO.get (HK.out _ (by assumption)) 21 _ rfl) (SrcO.get (HK.out _ (by assumption)) 22 _ rfl) (SrcO.get (HK.out _ (by assumption)) 23 _ rfl)).mono ?_); go_must (rintro e w9 ⟨rfl, hb9⟩); rw [leNat_le _ hu])
   | (go_at_call 100; with_reducible refine atSl (o := o + 28) ?_; go_must (refine (Tryz.binary_LE_Uint32 D (o + 28) 4 _ _ _ _ _ _ (by decide) (SrcO.get (HK.out _ (by assumption)) 28 _ rfl) (SrcO.get (HK.out _ (by assumption)) 29 _ rfl) (SrcO.get (HK.out _ (by assumption)) 30 _ rfl) (SrcO.get (HK.out _ (by assumption)) 31 _ rfl)).mono ?_); go_must (rintro e w9 ⟨rfl, hb9⟩); rw [leNat_le _ hg]))
  all_goals
   go_wp2
   go_ret2
   exact ⟨rfl, by assumption⟩
theorem px_any (R D o c l : Nat) (f : File) (w : World) (hs : SrcO w D o (pxB f l)) (hc : 36 <= c) (hR : w.cell? ⟨R, 4, none⟩ = some (.int .i64 36)) (hl : l < 4294967296) (hu : f.uid < 4294967296) (hg : f.gid < 4294967296) (hp : f.perm < 512) :
 Calls Tryz.prog 247 #[.pointer (some ⟨R, 0, none⟩), .slice (some ⟨D, o, none⟩) 36 c] w fun e w' => e = .returned (.tuple #[pxV (goMode f) l f.uid f.gid, .nilIface]) /\ Below w.heap.size w w' := by
 obtain ⟨f1, f2⟩ := perm_facts f.perm hp
 obtain ⟨o1, o2, o3, o4, o5⟩ := perm_or f.perm hp
 have hmk : pxMode f = f.perm ||| pxKind f := by unfold pxMode; rw [f1]
 have hml := pxMode_lt f
 have hkm : pxKind f ∈ [16384, 32768, 40960] := by unfold pxKind; split <;> (try split) <;> simp
 obtain ⟨g1, g2, g3, g4, g5⟩ := f2 _ hkm
 rw [<- hmk] at g1 g2 g3 g4 g5
 refine px_core R D o c (pxMode f) f.perm (pxKind f) (goMode f) l f.uid f.gid w hs hc hR (by omega) hl hu hg (and_fact _ _ _ (by omega) (by decide) g1) (or_fact 0 _ _ (by decide) (by omega) o1) (and_fact _ _ 0 (by omega) (by decide) g2) (and_fact _ _ 0 (by omega) (by decide) g3) (and_fact _ _ 0 (by omega) (by decide) g4) (and_fact _ _ _ (by omega) (by decide) g5) ?_
 unfold pxKind goMode goKind
 split
 . exact .inl ⟨rfl, or_fact _ _ _ (by omega) (by decide) o3⟩
 . split
   . exact .inr (.inr ⟨rfl, by rw [Nat.zero_or]⟩)
   . exact .inr (.inl ⟨rfl, or_fact _ _ _ (by omega) (by decide) o2⟩)
theorem go_appRow {o : Oper} {a : Act} {w wa : World} {K : Act -> World -> Prop} {Q : Exit -> Act -> World -> Prop} {ty e k by' : Nat} (hty : Tryz.prog.underlying ty = some (.slice e)) (hinfo : (Tryz.prog.info? e).map (fun i => (i.zero.map (·.cells.size), i.size, i.bytes)) = some (some k, k, by')) (hk : 0 < k)
 (s x : Operand) (ho : o.op = .call { callee := .builtin .append, args := #[s, x], argTypes := #[ty, ty] })
 (B N m co : Nat) (A : Option Addr) (us vs : List Value) (hul : vs.length = k) (hu1 : ∀ u ∈ vs, u.oneCell' = true) (hs : a.eval s = .slice A m co) (hO : w.ownsRow B e k (.slice A m co) m us) (hwa : Below w.heap.size w wa) (hwc : wa.heap[w.heap.size]? = some (.cells vs.toArray e)) (hsz : w.heap.size = N) (hx : a.eval x = .slice (some ⟨N, 0, none⟩) 1 1)
 (hm : m + 1 <= 1000000) (hby : by' <= 1000) (hB : B <= w.heap.size)
 (h : ∀ g c w', w'.ownsRow B e k (.slice (some ⟨g, 0, none⟩) (m + 1) c) (m + 1) (us ++ vs) -> Below B w w' -> w.heap.size < w'.heap.size -> wa.grownBy w' (Value.slice A m co).ownBlock -> K (a.put o.dst (.slice (some ⟨g, 0, none⟩) (m + 1) c)) w') : Oper.wp Tryz.prog o a wa K Q := by
 obtain ⟨i, z, hi, hz, hzs, hsi, hbe⟩ := infoz hinfo
 subst hsz
 have hO' := ownsRow_later hO hwa
 have hb : (m + 1) * by' <= 140737488355328 := by
  have : (m + 1) * by' <= 1000000 * 1000 := Nat.mul_le_mul hm hby
  omega
 refine wp_append_own (P := Tryz.prog) _ s x ty ho B e i z k by' hty hi hz hsi hbe hzs hk _ _ _ hs hO' ⟨w.heap.size, 0, none⟩ 1 1 vs hx (by rw [hul]; omega) ?_ hu1 (by unfold maxLen; omega) hb (Nat.le_trans hB hwa.size) ?_
 . intro j u hu
   rw [Addr.add_mid, Nat.zero_add]
   simp only [World.cell?, hwc]
   simpa using hu
 . intro v' w' hrow hgr _
   obtain ⟨A', c, rfl, hAg, _⟩ := ownsRow_shape hrow
   obtain ⟨g', rfl⟩ := hAg (by omega)
   refine h g' c w' hrow ((hwa.mono hB).grown hgr (Nat.le_trans hB hwa.size) (fun j hj => (World.ownsRow.lt hO j hj).1)) ?_ hgr
   exact Nat.lt_of_lt_of_le (Array.getElem?_eq_some_iff.1 hwc).1 hgr.size
theorem go_make0 {o : Oper} {a : Act} {w : World} {K : Act -> World -> Prop} {Q : Exit -> Act -> World -> Prop} {t e k bz : Nat} (ht : Tryz.prog.underlying t = some (.slice e)) (hinfo : (Tryz.prog.info? e).map (fun i => (i.zero.map (·.cells.size), i.size, i.bytes)) = some (some k, k, bz)) (hk : 0 < k)
 (l c : Operand) (ho : o.op = Op.makeSlice t l c) (B : Nat) (kl kc : IntKind) (hl : a.eval l = .int kl 0) (hc : a.eval c = .int kc 0) (hB : B <= w.heap.size)
 (h : ∀ w', w'.ownsRow B e k (.slice (some ⟨w.heap.size, 0, none⟩) 0 0) 0 [] -> Below B w w' -> w'.heap.size = w.heap.size + 1 -> K (a.put o.dst (.slice (some ⟨w.heap.size, 0, none⟩) 0 0)) w') :
 Oper.wp Tryz.prog o a w K Q := by
 obtain ⟨i, z, hi, hz, hzs, hsi, hby⟩ := infoz hinfo
 have hr := run_make (P := Tryz.prog) w t e i z ht hi hz kl kc ((0 : Nat) : Int) ((0 : Nat) : Int) (by omega) (by omega) (by omega) (by omega)
 simp only [Int.toNat_natCast, hsi, Nat.zero_mul] at hr
 unfold Oper.wp
 have hl' : a.eval l = .int kl ((0 : Nat) : Int) := hl
 have hc' : a.eval c = .int kc ((0 : Nat) : Int) := hc
 simp only [execOp, ho, hl', hc', hr, Sem.run_bind, Sem.run_pure, Result.andThen_ok]
 refine h _ ?_ ((Below.refl B w).alloc hB _) (by simp)
 exact ⟨by simp, .inr ⟨w.heap.size, 0, _, rfl, hB, heap_alloc_new w _, Nat.le_refl _, by unfold maxLen; omega, by simp [size_madeCells, hzs], by simp⟩⟩
theorem row_not {w : World} {B e k n m co b : Nat} {A : Option Addr} {us : List Value} {cs : Array Value} {t : TypeId} {fr : Nat × Nat} (hO : w.ownsRow B e k (.slice A m co) n us) (hb : w.heap[b]? = some (.cells cs t fr)) (hne : t ≠ e) : some b ≠ (Value.slice A m co).ownBlock := by
 intro e'
 rcases hO.2 with ⟨hv, _⟩ | ⟨g, cap, cur, hv, _, hg', _⟩
 . rw [hv] at e'; simp [Value.ownBlock] at e'
 . rw [hv] at e'
   simp only [Value.ownBlock, Option.some.injEq] at e'
   rw [<- e', hb] at hg'
   simp at hg'
   exact hne hg'.2.1
def tfTypes : List Value := [.int .u8 1, .int .u8 2, .int .u8 4, .int .u8 8, .int .u8 16, .int .u8 32, .int .u8 64]
def TfAt (D o c k : Nat) (v : Value) : Prop := (k <= 3 -> ∃ j, j = k - 1 /\ v = .slice (some ⟨D, o + 5 + 7 * j, none⟩) (21 - 7 * j) (c - 5 - 7 * j)) /\ ∃ A n q, v = .slice A n q
theorem tf_byte (t : Int) (j i : Nat) (hj : j <= 2) (hi : i < 7) : ∃ y, (tfB t)[5 + 7 * j + i]? = some y := by
 have hl : (tfB t).length = 26 := by unfold tfB; rw [suspB_len, tfBody_len]
 exact ⟨_, List.getElem?_eq_getElem (by omega)⟩
theorem under367 : Tryz.prog.underlying 367 = some (.slice 387) := by kernel_rfl
theorem info387 : (Tryz.prog.info? 387).map (fun i => (i.zero.map (·.cells.size), i.size, i.bytes)) = some (some 4, 4, 32) := by kernel_rfl
theorem tf_any (R : Value) (D o c : Nat) (t : Int) (w : World) (hs : SrcO w D o (tfB t)) (hc : 26 <= c) :
 Calls Tryz.prog 254 #[R, .slice (some ⟨D, o, none⟩) 26 c] w fun e w' => (∃ cs, e = .returned (.tuple #[.iface 369 (.agg cs), .nilIface])) /\ Below w.heap.size w w' := by
 have c2 : w.cell? ⟨D, o + 2, none⟩ = some (.int .u8 26) := hs.2 2 _ rfl
 have c3 : w.cell? ⟨D, o + 3, none⟩ = some (.int .u8 1) := hs.2 3 _ rfl
 have c4 : w.cell? ⟨D, o + 4, none⟩ = some (.int .u8 14) := hs.2 4 _ rfl
 have bt : bits .and .u8 14 128 = 0 := by decide
 have HS := Lib.hid hs
 have z1 : ¬ c = 5 := by omega
 have z2 : (26 : Int) <= (c : Int) := by omega
 clear hs
 go_enter Tryz.func254, Tryz.ntmps254
 go_upto_region 17 with (first
  | (at_make; refine asList rfl fun KK hKK => ?_; go_must (refine go_make0 under367 info387 (by decide) (.const (.int .i64 0)) (.const (.int .i64 0)) rfl w.heap.size .i64 .i64 rfl rfl (Nat.le_refl _) ?_); intro w1 hO1 hb1 hs1; refine hKK _ _ ?_; clear hKK KK))
 have hB := heap_alloc_new w1 (.cells tfTypes.toArray 5)
 have hb2 : Below w.heap.size w (w1.alloc (.cells tfTypes.toArray 5)) := hb1.alloc hb1.size _
 have hO2 := ownsRow_later hO1 ((Below.refl w1.heap.size w1).alloc (Nat.le_refl _) (.cells tfTypes.toArray 5))
 obtain ⟨T, hT⟩ : ∃ T, w.heap.size + 1 = T := ⟨_, rfl⟩
 rw [hs1, hT] at hB
 rw [hT]
 have hTw : w.heap.size < T := by omega
 have HB := Lib.hid hB; have HB2 := Lib.hid hb2; have HO2 := Lib.hid hO2
 clear hB hb2 hO2 hO1 hb1 hs1 c2 c3 c4 bt
 have e0 : (#[Value.int IntKind.u8 1, Value.int IntKind.u8 2, Value.int IntKind.u8 4, Value.int IntKind.u8 8, Value.int IntKind.u8 16, Value.int IntKind.u8 32, Value.int IntKind.u8 64] : Array Value) = tfTypes.toArray := rfl
 rw [e0]
 generalize w1.alloc (.cells tfTypes.toArray 5) = w2 at HB HB2 HO2 ⊢
 go_loopw [11, 12, 15, 16, 17, 18, 19, 47] (fun ev tv _ _ _ _ _ kv wr => ∃ (k m co : Nat) (A : Option Addr) (us : List Value), k <= 7 /\ m <= k /\ kv = .int .i64 k /\ ev = .slice A m co /\ Hid (wr.ownsRow w.heap.size 387 4 (.slice A m co) m us) /\ TfAt D o c k tv /\ Hid (wr.heap[T]? = some (.cells tfTypes.toArray 5)) /\ Below w.heap.size w wr) (fun _ _ _ _ _ _ _ kv _ => 7 - (intOf kv).toNat)
 case atStart => exact ⟨0, 0, 0, _, [], by omega, Nat.le_refl _, rfl, rfl, HO2.out, ⟨fun _ => ⟨0, rfl, rfl⟩, _, _, _, rfl⟩, HB.out, HB2.out⟩
 case round =>
  obtain ⟨k, m, co, A, us, hk, hmk, rfl, rfl, HO, ⟨hT1, A2, n2, q2, hT2⟩, HBr, hb⟩ := hrel
  have hTr : T < wr.heap.size := (Array.getElem?_eq_some_iff.1 HBr.out).1
  by_cases h7 : k < 7
  . have hcell : ∀ v, tfTypes[k]? = some v -> wr.cell? ⟨T, k, none⟩ = some v := fun v hv => ent_cell HBr.out k v hv
    by_cases hact : 1 <= k /\ k <= 3
    . obtain ⟨h1, h3⟩ := hact
      obtain ⟨j, hj, hv⟩ := hT1 h3
      obtain ⟨z, hz, hzb⟩ : ∃ z : Int, tfTypes[k]? = some (.int .u8 z) /\ (bits .and .u8 14 z == 0) = false := by
       match k, h1, h3 with
       | 1, _, _ => exact ⟨2, rfl, by decide⟩
       | 2, _, _ => exact ⟨4, rfl, by decide⟩
       | 3, _, _ => exact ⟨8, rfl, by decide⟩
      have hc1 := hcell _ hz
      have hj2 : j <= 2 := by omega
      have hkj : k = j + 1 := by omega
      subst hv
      obtain ⟨o2, ho2⟩ : ∃ o2, o + 5 + 7 * j = o2 := ⟨_, rfl⟩
      obtain ⟨n3, hn3⟩ : ∃ n3, 21 - 7 * j = n3 := ⟨_, rfl⟩
      obtain ⟨c3, hc3⟩ : ∃ c3, c - 5 - 7 * j = c3 := ⟨_, rfl⟩
      have hDw : D < w.heap.size := HS.out.1
      have KY : ∀ W, Below w.heap.size w W -> ∀ i, i < 7 -> ∃ y : UInt8, W.cell? ⟨D, o2 + i, none⟩ = some (.int .u8 (y.toNat : Int)) := by
       intro W hW i hi
       obtain ⟨y, hy⟩ := tf_byte t j i hj2 hi
       refine ⟨y, ?_⟩
       rw [hW.cell (p := ⟨D, o2 + i, none⟩) hDw]
       have := HS.out.2 _ y hy
       rw [<- ho2]
       rw [show o + (5 + 7 * j + i) = o + 5 + 7 * j + i by omega] at this
       exact this
      rw [ho2, hn3, hc3]
      have zz1 : (7 : Int) <= (n3 : Int) := by omega
      have zz2 : (7 : Int) <= (c3 : Int) := by omega
      have zz3 : (n3 : Int) <= (c3 : Int) := by omega
      have HKY := Lib.hid KY; have H2 := Lib.hid (And.intro ho2 (And.intro hn3 (And.intro hc3 (And.intro hj2 hkj))))
      clear KY hcell hz hT1 ho2 hn3 hc3 hj2 hkj hj
      have hb0 : Below w.heap.size w (wr.alloc (.cells #[.int .i64 0, .int .i64 0, .int .i64 0] 160)) := hb.alloc hb.size _
      obtain ⟨y0, hy0⟩ := HKY.out _ hb0 0 (by decide)
      obtain ⟨y1, hy1⟩ := HKY.out _ hb0 1 (by decide)
      obtain ⟨y2, hy2⟩ := HKY.out _ hb0 2 (by decide)
      obtain ⟨y3, hy3⟩ := HKY.out _ hb0 3 (by decide)
      obtain ⟨y4, hy4⟩ := HKY.out _ hb0 4 (by decide)
      obtain ⟨y5, hy5⟩ := HKY.out _ hb0 5 (by decide)
      obtain ⟨y6, hy6⟩ := HKY.out _ hb0 6 (by decide)
      have HT := Lib.hid (bytesToTime_some D o2 7 c3 y0 y1 y2 y3 y4 y5 y6 _ (by decide) hy0 hy1 hy2 hy3 hy4 hy5 hy6)
      have hX0 := Lib.hid (heap_alloc_new wr (.cells #[.int .i64 0, .int .i64 0, .int .i64 0] 160))
      have HB0 := Lib.hid hb0
      clear hy0 hy1 hy2 hy3 hy4 hy5 hy6 hb0
      have hxl : wr.heap.size < (wr.alloc (.cells #[.int .i64 0, .int .i64 0, .int .i64 0] 160)).heap.size := by simp
      have hwr := hb.size
      have hcc : c3 = 7 \/ ¬ c3 = 7 := Decidable.em _
      rcases hcc with rfl | hc7
      all_goals
       go_upto_region 29 with (first
        | (refine atStore 160 ?_; go_must (refine wpList_storeB rfl 160 _ _ rfl (b := wr.heap.size) rfl [.int .i64 x, .int .i64 0, .int .i64 a] [.int .i64 0, .int .i64 0, .int .i64 0] 160 rfl hX1.out (by kernel_rfl) (by rfl) (by rfl) ?_); intro x2 g1 g2 g3 g4; have hX2 := Lib.hid g1; have HB2 := Lib.hid (HB1.out.trans (g2 _ hwr)); have hbb := (((Below.refl wr.heap.size wr).alloc (Nat.le_refl _) (.cells #[.int .i64 0, .int .i64 0, .int .i64 0] 160)).trans (hx1.mono (Nat.le_of_lt hxl))).trans (g2 _ (Nat.le_refl _)); have HO2' := Lib.hid (ownsRow_keep HO.out hbb (fun k hk => (World.ownsRow.lt HO.out k hk).2)); have HT2 := Lib.hid ((hbb.block T hTr).trans HBr.out); clear hbb; clear g1 g2 g3 g4 hx1)
        | (go_at_call 153; go_must (refine HT.out.mono ?_); rintro e x1 ⟨⟨x, a, rfl⟩, hx1⟩; have hX1 := Lib.hid ((hx1.block wr.heap.size hxl).trans hX0.out); have HB1 := Lib.hid (HB0.out.trans (hx1.mono HB0.out.size))))
       clear hX0 hX1 HB1 HT HO
       go_upto_region 30 with (first
        | (refine atStore 387 ?_; go_must (refine wpList_storeNew rfl 387 _ _ rfl _ #[.int .u8 z, .int .i64 x, .int .i64 0, .int .i64 a] _ _ rfl rfl (by kernel_rfl) (by rfl) (by rfl) ?_); have HY := Lib.hid (heap_alloc_new x2 (.cells #[.int .u8 z, .int .i64 x, .int .i64 0, .int .i64 a] 387)); have HT4 := Lib.hid ((((Below.refl x2.heap.size x2).alloc (Nat.le_refl _) (.cells #[.int .u8 z, .int .i64 x, .int .i64 0, .int .i64 a] 387)).block T (Array.getElem?_eq_some_iff.1 HT2.out).1).trans HT2.out); have HB4 := Lib.hid (HB2.out.alloc HB2.out.size (.cells #[.int .u8 z, .int .i64 x, .int .i64 0, .int .i64 a] 387)); have HO4 := Lib.hid (ownsRow_later HO2'.out ((Below.refl x2.heap.size x2).alloc (Nat.le_refl _) (.cells #[.int .u8 z, .int .i64 x, .int .i64 0, .int .i64 a] 387))); generalize x2.alloc (.cells #[.int .u8 z, .int .i64 x, .int .i64 0, .int .i64 a] 387) = x4 at HY HB4 HO4 HT4 ⊢)
        | (refine atLoad 160 ?_; go_must (refine wpList_loadB rfl 160 _ rfl (b := wr.heap.size) rfl [.int .i64 x, .int .i64 0, .int .i64 a] 160 hX2.out (by kernel_rfl) (by kernel_rfl) ?_)))
       go_wp2_with (first
        | (at_builtin; refine asList rfl fun KK hKK => ?_; go_must (refine go_appRow (w := x4) under367 info387 (by decide) (.tmp 75) (.tmp 77) rfl w.heap.size x4.heap.size m co A us [.int .u8 z, .int .i64 x, .int .i64 0, .int .i64 a] rfl (by simp [Value.oneCell']) rfl HO4.out ((Below.refl _ _).alloc (Nat.le_refl _) _) (heap_alloc_new x4 _) rfl rfl (by omega) (by decide) HB4.out.size ?_); intro g9 c9 w9 hO9 hb9 hs9 hg9; refine hKK _ _ ?_; clear hKK KK)
        | (refine atLoad 387 ?_; go_must (refine wpList_loadB rfl 387 _ rfl (b := x2.heap.size) rfl [.int .u8 z, .int .i64 x, .int .i64 0, .int .i64 a] 387 HY.out (by kernel_rfl) (by kernel_rfl) ?_)))
       go_roundw
       case rel =>
        obtain ⟨q1, q2, q3, q4, q5⟩ := H2.out
        refine ⟨k + 1, m + 1, c9, _, _, by omega, by omega, by simp, rfl, hO9, ⟨fun h => ⟨j + 1, by omega, ?_⟩, _, _, _, rfl⟩, ?_, HB4.out.trans hb9⟩
        . first
           | (exfalso; omega)
           | (rw [<- q1, <- q2, <- q3]; congr 1 <;> first | (congr 2; omega) | omega)
        . have h4 := (Array.getElem?_eq_some_iff.1 HT4.out).1
          exact ((hg9.block T (by simp; omega) (row_not HO4.out HT4.out (by decide))).trans (heap_alloc_old x4 _ h4)).trans HT4.out
       case measure => simp [intOf]; omega
    . obtain ⟨z, hz, hzb⟩ : ∃ z : Int, tfTypes[k]? = some (.int .u8 z) /\ bits .and .u8 14 z = 0 := by
       match k, h7, hact with
       | 0, _, _ => exact ⟨1, rfl, by decide⟩
       | 1, _, h => exact absurd ⟨by decide, by decide⟩ h
       | 2, _, h => exact absurd ⟨by decide, by decide⟩ h
       | 3, _, h => exact absurd ⟨by decide, by decide⟩ h
       | 4, _, _ => exact ⟨16, rfl, by decide⟩
       | 5, _, _ => exact ⟨32, rfl, by decide⟩
       | 6, _, _ => exact ⟨64, rfl, by decide⟩
      have hc1 := hcell _ hz
      have hTn : TfAt D o c (k + 1) u12 := ⟨fun h => by
       obtain ⟨j, hj, hv⟩ := hT1 (by omega)
       exact ⟨j, by omega, hv⟩, A2, n2, q2, hT2⟩
      have HTN := Lib.hid hTn
      clear hTn hT1 hT2 hz hcell
      go_wp2
      go_roundw
      case rel => exact ⟨k + 1, m, co, A, us, by omega, by omega, by simp, rfl, HO, HTN.out, HBr, hb⟩
      case measure => simp [intOf]; omega
  . have hke : k = 7 := by omega
    subst hke
    clear hT1 hT2
    go_wp2
    go_ret2
    exact ⟨⟨_, rfl⟩, hb⟩
end Go.Proofs.YtilgpaeeleknhaaGreatDoor
