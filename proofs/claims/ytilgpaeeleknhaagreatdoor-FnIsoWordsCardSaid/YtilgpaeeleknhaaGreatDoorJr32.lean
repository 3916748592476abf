/- A part of the proof of laws.FnIsoRock (see the last text). -/
import Derived.Test.YtilgpaeeleknhaaGreatDoorJr30
import Derived.Test.YtilgpaeeleknhaaGreatDoorJr31
set_option linter.unusedSimpArgs false
set_option linter.unusedVariables false
set_option maxRecDepth 1000000
set_option maxHeartbeats 8000000
namespace Go.Proofs.YtilgpaeeleknhaaGreatDoor
open Go Go.RowKit
def TL : List TypeId := [249, 253, 279, 359, 362, 366, 369]
theorem item_type {it : Item} {v : Value} (hv : ItemV true it v) : ∃ t cs, v = .iface t (.agg cs) /\ t ∈ TL /\ (t = 366 -> ∃ s, it = .nm s) /\ (t = 359 -> ∃ f l, it = .px f l) /\ (t = 362 -> ∃ cs, it = .sl cs) := by
 unfold TL
 cases it with
 | sp => exact ⟨_, _, hv, by simp, fun h => absurd h (by decide), fun h => absurd h (by decide), fun h => absurd h (by decide)⟩
 | er => exact ⟨_, _, hv, by simp, fun h => absurd h (by decide), fun h => absurd h (by decide), fun h => absurd h (by decide)⟩
 | ce x y z => exact ⟨_, _, hv, by simp, fun h => absurd h (by decide), fun h => absurd h (by decide), fun h => absurd h (by decide)⟩
 | px f l => exact ⟨_, _, hv, by simp, fun h => absurd h (by decide), fun _ => ⟨f, l, rfl⟩, fun h => absurd h (by decide)⟩
 | tf t => obtain ⟨cs, e⟩ := hv; exact ⟨_, _, e, by simp, fun h => absurd h (by decide), fun h => absurd h (by decide), fun h => absurd h (by decide)⟩
 | nm s => exact ⟨_, _, hv, by simp, fun _ => ⟨s, rfl⟩, fun h => absurd h (by decide), fun h => absurd h (by decide)⟩
 | sl cs => exact ⟨_, _, hv, by simp, fun h => absurd h (by decide), fun h => absurd h (by decide), fun _ => ⟨cs, rfl⟩⟩
theorem as372_no (t : TypeId) (v : Value) (w : World) (ht : t ∈ TL) : (Instr.typeAssert (.iface t v) 247 372 true).run Tryz.prog w = .ok (.tuple #[.agg #[], .bool false]) w := by
 simp only [TL, List.mem_cons, List.not_mem_nil, or_false] at ht
 rcases ht with rfl | rfl | rfl | rfl | rfl | rfl | rfl <;> kernel_rfl
theorem as366 (v : Value) (w : World) : (Instr.typeAssert (.iface 366 v) 247 366 true).run Tryz.prog w = .ok (.tuple #[v, .bool true]) w := by kernel_rfl
theorem as366_no (t : TypeId) (v : Value) (w : World) (ht : t ∈ TL) (hne : t ≠ 366) : (Instr.typeAssert (.iface t v) 247 366 true).run Tryz.prog w = .ok (.tuple #[.agg #[.bool false, .bool false, .bool false, .string ⟨#[]⟩], .bool false]) w := by
 simp only [TL, List.mem_cons, List.not_mem_nil, or_false] at ht
 rcases ht with rfl | rfl | rfl | rfl | rfl | rfl | rfl <;> first | exact absurd rfl hne | kernel_rfl
theorem as359 (v : Value) (w : World) : (Instr.typeAssert (.iface 359 v) 247 359 true).run Tryz.prog w = .ok (.tuple #[v, .bool true]) w := by kernel_rfl
theorem as359_no (t : TypeId) (v : Value) (w : World) (ht : t ∈ TL) (hne : t ≠ 359) : (Instr.typeAssert (.iface t v) 247 359 true).run Tryz.prog w = .ok (.tuple #[.agg #[.int .u32 0, .int .i64 0, .int .u32 0, .int .u32 0, .int .u32 0, .int .u64 0], .bool false]) w := by
 simp only [TL, List.mem_cons, List.not_mem_nil, or_false] at ht
 rcases ht with rfl | rfl | rfl | rfl | rfl | rfl | rfl <;> first | exact absurd rfl hne | kernel_rfl
theorem as362 (v : Value) (w : World) : (Instr.typeAssert (.iface 362 v) 247 362 true).run Tryz.prog w = .ok (.tuple #[v, .bool true]) w := by kernel_rfl
theorem as362_no (t : TypeId) (v : Value) (w : World) (ht : t ∈ TL) (hne : t ≠ 362) : (Instr.typeAssert (.iface t v) 247 362 true).run Tryz.prog w = .ok (.tuple #[.agg #[.bool false, .string ⟨#[]⟩], .bool false]) w := by
 simp only [TL, List.mem_cons, List.not_mem_nil, or_false] at ht
 rcases ht with rfl | rfl | rfl | rfl | rfl | rfl | rfl <;> first | exact absurd rfl hne | kernel_rfl
theorem EntX.at {w : World} {b : Nat} {r : Rec} {its : List Item} {fs : Value} {L : Nat} (H : EntX w b r true its fs L) (h1 : 1 <= its.length) : ∃ g co, w.cell? ⟨b, 18, none⟩ = some (.slice (some ⟨g, 0, none⟩) its.length co) /\
 ∀ k it, its[k]? = some it -> ∃ v, ItemV true it v /\ g < w.heap.size /\ w.cell? ⟨g, k, none⟩ = some v := by
 obtain ⟨X, co, vs, h18, hO, hA⟩ := H.cells.exts
 obtain ⟨g, rfl, _, hg, hc⟩ := row_addr hO h1
 refine ⟨g, co, h18, fun k it hk => ?_⟩
 have hk' : k < vs.length := by rw [<- hA.1]; exact (List.getElem?_eq_some_iff.1 hk).1
 exact ⟨vs[k], hA.2 k it _ hk (List.getElem?_eq_getElem hk'), hg, hc k _ (List.getElem?_eq_getElem hk')⟩
theorem relocated_any (R b : Nat) (r : Rec) (its : List Item) (fs : Value) (w : World) (hE : EntX w b r true its fs) (h1 : 1 <= its.length) (h20 : its.length <= 100) :
 Calls Tryz.prog 244 #[PB R, PB b] w fun e w' => e = .returned (.bool false) /\ Below w.heap.size w w' := by
 obtain ⟨g, co, h18, hat⟩ := hE.at h1
 obtain ⟨N, hN⟩ : ∃ N, its.length = N := ⟨_, rfl⟩
 rw [hN] at h1 h20 h18
 have HAT := Lib.hid hat; have HN := Lib.hid hN
 clear hE hat hN
 go_enter Tryz.func244, Tryz.ntmps244
 go_wp2
 go_loopw [5, 15] (fun fv iv wr => ∃ k : Nat, k <= N /\ fv = .bool false /\ iv = .int .i64 k /\ Below w.heap.size w wr) (fun _ iv _ => N - (intOf iv).toNat)
 case atStart => exact ⟨0, Nat.zero_le _, rfl, rfl, Below.refl _ _⟩
 case round =>
  obtain ⟨k, hk, rfl, rfl, hb⟩ := hrel
  by_cases hlt : k < N
  . obtain ⟨it, hit⟩ : ∃ it, its[k]? = some it := ⟨its[k]'(by rw [HN.out]; exact hlt), List.getElem?_eq_getElem _⟩
    obtain ⟨v, hv, hg, hc⟩ := HAT.out k it hit
    obtain ⟨t, cs, rfl, ht, _⟩ := item_type hv
    have hc' := (hb.cell (p := ⟨g, k, none⟩) hg).trans hc
    have q1 := fun (v : Value) (w : World) => as372_no t v w ht
    clear hv hit ht hc
    go_wp2_with (first
     | (refine atStore 372 ?_; go_must (refine wpList_storeNew rfl 372 _ _ rfl _ #[] _ _ rfl rfl (by kernel_rfl) (by rfl) (by rfl) ?_)))
    go_roundw
    case rel => exact ⟨k + 1, hlt, rfl, by simp, hb.alloc hb.size _⟩
    case measure => simp [intOf]; omega
  . have hke : k = N := by omega
    subst hke
    go_wp2
    go_ret
    exact ⟨rfl, hb⟩
def NmAt (its : List Item) (s : List UInt8) : Prop := ∃ k : Nat, its[k]? = some (Item.nm s) /\ ∀ j, j < k -> ∀ s', its[j]? ≠ some (Item.nm s')
theorem fileName_any (R b : Nat) (r : Rec) (its : List Item) (fs : Value) (s : List UInt8) (w : World) (hE : EntX w b r true its fs) (h20 : its.length <= 100) (hs : NmAt its s) :
 Calls Tryz.prog 242 #[PB R, PB b] w fun e w' => e = .returned (.tuple #[.string (ofL s), .nilIface]) /\ Below w.heap.size w w' := by
 obtain ⟨q, hq, hqn⟩ := hs
 have h1 : 1 <= its.length := by have := (List.getElem?_eq_some_iff.1 hq).1; omega
 obtain ⟨g, co, h18, hat⟩ := hE.at h1
 obtain ⟨N, hN⟩ : ∃ N, its.length = N := ⟨_, rfl⟩
 have hqN : q < N := by rw [<- hN]; exact (List.getElem?_eq_some_iff.1 hq).1
 rw [hN] at h1 h20 h18
 have HAT := Lib.hid hat; have HN := Lib.hid hN; have HQ := Lib.hid hq; have HQN := Lib.hid hqn
 clear hE hat hN hq hqn
 go_enter Tryz.func242, Tryz.ntmps242
 go_wp2
 go_loopw [6, 7, 17] (fun fv nv iv wr => ∃ k : Nat, k <= q /\ fv = .bool false /\ nv = .string ⟨#[]⟩ /\ iv = .int .i64 k /\ Below w.heap.size w wr) (fun _ _ iv _ => N - (intOf iv).toNat)
 case atStart => exact ⟨0, Nat.zero_le _, rfl, rfl, rfl, Below.refl _ _⟩
 case round =>
  obtain ⟨k, hk, rfl, rfl, rfl, hb⟩ := hrel
  have hlt : k < N := by omega
  obtain ⟨it, hit⟩ : ∃ it, its[k]? = some it := ⟨its[k]'(by rw [HN.out]; exact hlt), List.getElem?_eq_getElem _⟩
  obtain ⟨v, hv, hg, hc⟩ := HAT.out k it hit
  have hc' := (hb.cell (p := ⟨g, k, none⟩) hg).trans hc
  by_cases hkq : k = q
  . subst hkq
    have hit2 : it = .nm s := by have := HQ.out; rw [hit] at this; exact Option.some.inj this
    subst hit2
    have hv2 : v = .iface 366 (.agg #[.bool false, .bool false, .bool false, .string (ofL s)]) := hv
    subst hv2
    have q1 := as366
    have hX := Lib.hid (heap_alloc_new wr (.cells #[.bool false, .bool false, .bool false, .string (ofL s)] 366))
    have x3 := ent_cell (cs := [.bool false, .bool false, .bool false, .string (ofL s)]) hX.out 3 _ rfl
    clear hv hit hc
    go_wp2_with (first
     | (refine atStore 366 ?_; go_must (refine wpList_storeNew rfl 366 _ _ rfl _ #[.bool false, .bool false, .bool false, .string (ofL s)] _ _ rfl rfl (by kernel_rfl) (by rfl) (by rfl) ?_)))
    go_ret2
    exact ⟨rfl, hb.alloc hb.size _⟩
  . obtain ⟨t, cs, rfl, ht, hnm, _⟩ := item_type hv
    have hne : t ≠ 366 := fun e => by
     obtain ⟨s', rfl⟩ := hnm e
     exact HQN.out k (by omega) s' hit
    have q1 := fun (v : Value) (w : World) => as366_no t v w ht hne
    clear hv hit ht hc hnm hne
    go_wp2_with (first
     | (refine atStore 366 ?_; go_must (refine wpList_storeNew rfl 366 _ _ rfl _ #[.bool false, .bool false, .bool false, .string ⟨#[]⟩] _ _ rfl rfl (by kernel_rfl) (by rfl) (by rfl) ?_)))
    go_roundw
    case rel => exact ⟨k + 1, by omega, rfl, rfl, by simp, hb.alloc hb.size _⟩
    case measure => simp [intOf]; omega
theorem usePt_any (R : Value) (w : World) : Calls Tryz.prog 245 #[R] w fun e w' => e = .returned (.bool false) /\ w' = w := by
 go_enter Tryz.func245, Tryz.ntmps245
 go_wp2
 go_ret
 exact ⟨rfl, rfl⟩
theorem method_Relocated (a : Addr) (w : World) : (method 510 255 (.pointer (some a)) "Relocated").run Tryz.prog w = .ok (244, .pointer (some a)) w := by kernel_rfl
theorem method_GetFilename (a : Addr) (w : World) : (method 510 255 (.pointer (some a)) "GetFilename").run Tryz.prog w = .ok (242, .pointer (some a)) w := by kernel_rfl
theorem method_UsePathtable (a : Addr) (w : World) : (method 510 255 (.pointer (some a)) "UsePathtable").run Tryz.prog w = .ok (245, .pointer (some a)) w := by kernel_rfl
theorem as279 (v : Value) (w : World) : (Instr.typeAssert (.iface 279 v) 247 279 true).run Tryz.prog w = .ok (.tuple #[v, .bool true]) w := by kernel_rfl
theorem as279_no (t : TypeId) (v : Value) (w : World) (ht : t ∈ [249, 253, 331, 359, 362, 366, 369]) : (Instr.typeAssert (.iface t v) 247 279 true).run Tryz.prog w = .ok (.tuple #[.agg #[.int .u32 0, .int .u32 0, .int .u32 0], .bool false]) w := by
 simp only [List.mem_cons, List.not_mem_nil, or_false] at ht
 rcases ht with rfl | rfl | rfl | rfl | rfl | rfl | rfl <;> kernel_rfl
theorem loc_any (x y z : Value) (w : World) : Calls Tryz.prog 123 #[.agg #[x, y, z]] w fun e w' => e = .returned x /\ Below w.heap.size w w' := by
 go_enter Tryz.func123, Tryz.ntmps123
 go_wp2
 go_ret
 exact ⟨rfl, (Below.refl _ _).alloc (Nat.le_refl _) _⟩
theorem clen_any (x y z : Value) (w : World) : Calls Tryz.prog 124 #[.agg #[x, y, z]] w fun e w' => e = .returned z /\ Below w.heap.size w w' := by
 go_enter Tryz.func124, Tryz.ntmps124
 go_wp2
 go_ret
 exact ⟨rfl, (Below.refl _ _).alloc (Nat.le_refl _) _⟩
theorem coff_any (x y z : Value) (w : World) : Calls Tryz.prog 125 #[.agg #[x, y, z]] w fun e w' => e = .returned y /\ Below w.heap.size w w' := by
 go_enter Tryz.func125, Tryz.ntmps125
 go_wp2
 go_ret
 exact ⟨rfl, (Below.refl _ _).alloc (Nat.le_refl _) _⟩
structure FsR (w : World) (F M D : Nat) (h : Bool) (img : List UInt8) : Prop where
 back : w.cell? ⟨F, 4, none⟩ = some (.iface 107 (PB M))
 blk : w.cell? ⟨F, 5, none⟩ = some (.int .i64 2048)
 sus : w.cell? ⟨F, 11, none⟩ = some (.bool true)
 exts : ∃ hv, w.cell? ⟨F, 13, none⟩ = some hv /\ HandV w hv h
 mem : MemAt w M D img
 mlt : M < w.heap.size
 dlt : D < w.heap.size
 len : img.length <= 1000000000
theorem FsR.lt {w : World} {F M D : Nat} {h : Bool} {img : List UInt8} (H : FsR w F M D h img) : F < w.heap.size := cell_lt H.blk
theorem FsR.later {w w' : World} {F M D : Nat} {h : Bool} {img : List UInt8} (H : FsR w F M D h img) (hb : Below w.heap.size w w') : FsR w' F M D h img := by
 have hF := H.lt
 obtain ⟨hv, h1, h2⟩ := H.exts
 exact ⟨(hb.cell (p := ⟨F, 4, none⟩) hF).trans H.back, (hb.cell (p := ⟨F, 5, none⟩) hF).trans H.blk, (hb.cell (p := ⟨F, 11, none⟩) hF).trans H.sus, ⟨hv, (hb.cell (p := ⟨F, 13, none⟩) hF).trans h1, h2.later hb⟩, H.mem.keep hb H.mlt H.dlt, Nat.lt_of_lt_of_le H.mlt hb.size, Nat.lt_of_lt_of_le H.dlt hb.size, H.len⟩
def NoCe (its : List Item) : Prop := ∀ x y z, its.getLast? ≠ some (.ce x y z)
def ContOk (img : List UInt8) (its fin : List Item) : Prop :=
 (fin = its /\ NoCe its) \/ ∃ its0 x y z its1, its = its0 ++ [.ce x y z] /\ fin = its0 ++ its1 /\ NoCe its1 /\ 1 <= its1.length /\ its1.length <= 20 /\ (∀ it ∈ its1, it.Ok) /\ z = (itemsB its1).length /\ x < 400000 /\ y < 2048 /\ z <= 2048 /\ x * 2048 + y + z <= img.length /\ (img.drop (x * 2048 + y)).take z = itemsB its1
theorem item_not279 {h : Bool} {it : Item} {v : Value} (hv : ItemV h it v) (hn : ∀ x y z, it ≠ .ce x y z) : ∃ t cs, v = .iface t (.agg cs) /\ t ∈ [249, 253, 331, 359, 362, 366, 369] := by
 cases it with
 | sp => exact ⟨_, _, hv, by simp⟩
 | er => exact ⟨_, _, hv, by simp⟩
 | ce x y z => exact absurd rfl (hn x y z)
 | px f l =>
   cases h with
   | true => exact ⟨_, _, hv, by simp⟩
   | false => obtain ⟨cs, e⟩ := hv; exact ⟨_, _, e, by simp⟩
 | tf t =>
   cases h with
   | true => obtain ⟨cs, e⟩ := hv; exact ⟨_, _, e, by simp⟩
   | false => obtain ⟨cs, e⟩ := hv; exact ⟨_, _, e, by simp⟩
 | nm s =>
   cases h with
   | true => exact ⟨_, _, hv, by simp⟩
   | false => obtain ⟨cs, e⟩ := hv; exact ⟨_, _, e, by simp⟩
 | sl cs =>
   cases h with
   | true => exact ⟨_, _, hv, by simp⟩
   | false => obtain ⟨cs, e⟩ := hv; exact ⟨_, _, e, by simp⟩
theorem row_take {w : World} {B e g n co K : Nat} {us : List Value} (hO : w.ownsRow B e 1 (.slice (some ⟨g, 0, none⟩) n co) n us) (hK : K <= n) : w.ownsRow B e 1 (.slice (some ⟨g, 0, none⟩) K co) K (us.take K) := by
 have hl : us.length = n := by have := hO.1; omega
 refine ⟨by rw [List.length_take]; omega, ?_⟩
 rcases hO.2 with ⟨hv, h1⟩ | ⟨g', cap, cur, hv, hb, hg, h1, h2, h3, h4⟩
 . cases hv
 . injection hv with hv1 hv2 hv3
   injection hv1 with hv1
   injection hv1 with hv1
   subst hv1; subst hv3
   refine .inr ⟨g, co, cur, rfl, hb, hg, by omega, h2, h3, ?_⟩
   rw [<- h4, List.take_take]
   congr 1; omega
theorem go_appM {o : Oper} {a : Act} {w : World} {K : Act -> World -> Prop} {Q : Exit -> Act -> World -> Prop} (s x : Operand) (ho : o.op = .call { callee := .builtin .append, args := #[s, x], argTypes := #[174, 174] })
 (B n m co c2 g2 : Nat) (A : Option Addr) (us news : List Value) (hs : a.eval s = .slice A n co) (hO : w.ownsRow B 247 1 (.slice A n co) n us) (hx : a.eval x = .slice (some ⟨g2, 0, none⟩) m c2) (hl : news.length = m) (hcell : ∀ j u, news[j]? = some u -> w.cell? ⟨g2, j, none⟩ = some u) (h1 : ∀ u ∈ news, u.oneCell' = true) (hlen : n + m <= 100000) (hB : B <= w.heap.size)
 (h : ∀ A' c' w', w'.ownsRow B 247 1 (.slice A' (n + m) c') (n + m) (us ++ news) -> w.grownBy w' (Value.slice A n co).ownBlock -> Below B w w' -> K (a.put o.dst (.slice A' (n + m) c')) w') : Oper.wp Tryz.prog o a w K Q := by
 obtain ⟨i, z, hi, hz, hzs, hsi, hby⟩ := infoz info247
 refine wp_append_own (P := Tryz.prog) _ s x 174 ho B 247 i z 1 16 under174 hi hz hsi hby hzs (by decide) _ _ _ hs hO ⟨g2, 0, none⟩ m c2 news hx (by omega) (fun j u hu => by rw [Addr.add_mid, Nat.zero_add]; exact hcell j u hu) h1 (by unfold maxLen; omega) (by omega) hB ?_
 intro v' w' hrow hgr _
 obtain ⟨A', c, rfl, _, _⟩ := ownsRow_shape hrow
 exact h A' c w' hrow hgr ((Below.refl B w).grown hgr hB (fun j hj => (World.ownsRow.lt hO j hj).1))
theorem wrapXY (x y : Nat) (hx : x < 400000) (hy : y < 2048) : IntKind.i64.wrap (IntKind.i64.wrap ((x : Int) * 2048) + (y : Int)) = ((x * 2048 + y : Nat) : Int) := by
 rw [wrap_small ((x : Int) * 2048) (by omega) (by omega), wrap_small _ (by omega) (by omega)]
 omega
theorem srcO0 {w : World} {D : Nat} {l : List UInt8} (h : Src w D l) : SrcO w D 0 l := ⟨h.lt, fun j b hj => by rw [Nat.zero_add]; exact h.cell j b hj⟩
theorem al2_one {h : Bool} {its : List Item} {vs : List Value} (H : Al2 (ItemV h) its vs) : ∀ u ∈ vs, u.oneCell' = true := by
 intro u hu
 obtain ⟨k, hk⟩ := List.mem_iff_getElem?.1 hu
 have hk' : k < its.length := by rw [H.1]; exact (List.getElem?_eq_some_iff.1 hk).1
 obtain ⟨t, cs, rfl⟩ := itemV_shape (H.2 k _ u (List.getElem?_eq_getElem hk') hk)
 rfl
theorem Al2.app {α β : Type} {R : α -> β -> Prop} {xs xs' : List α} {ys ys' : List β} (h : Al2 R xs ys) (h2 : Al2 R xs' ys') : Al2 R (xs ++ xs') (ys ++ ys') := by
 refine ⟨by simp [h.1, h2.1], fun k x y hx hy => ?_⟩
 by_cases hk : k < xs.length
 . rw [List.getElem?_append_left hk] at hx
   rw [List.getElem?_append_left (by rw [<- h.1]; exact hk)] at hy
   exact h.2 k x y hx hy
 . rw [List.getElem?_append_right (by omega)] at hx
   rw [List.getElem?_append_right (by rw [<- h.1]; omega), <- h.1] at hy
   exact h2.2 _ x y hx hy
theorem Al2.take {α β : Type} {R : α -> β -> Prop} {xs xs' : List α} {ys : List β} {K : Nat} (h : Al2 R (xs ++ xs') ys) (hK : xs.length = K) : Al2 R xs (ys.take K) := by
 subst hK
 refine ⟨by rw [List.length_take, <- h.1, List.length_append]; omega, fun k x y hx hy => ?_⟩
 have hk := (List.getElem?_eq_some_iff.1 hx).1
 rw [List.getElem?_take, if_pos hk] at hy
 exact h.2 k x y (by rw [List.getElem?_append_left hk]; exact hx) hy
theorem cell_blk {w w' : World} {b k : Nat} {v : Value} (e : w'.heap[b]? = w.heap[b]?) (h : w.cell? ⟨b, k, none⟩ = some v) : w'.cell? ⟨b, k, none⟩ = some v := by
 simp only [World.cell?, e] at h ⊢; exact h
theorem frozen_blk {w w' : World} {b k : Nat} (e : w'.heap[b]? = w.heap[b]?) (h : w.frozen? ⟨b, k, none⟩ = false) : w'.frozen? ⟨b, k, none⟩ = false := by
 simp only [World.frozen?, e] at h ⊢; exact h
theorem EntX.setExts {w w9 : World} {b n9 c9 : Nat} {A9 : Option Addr} {r : Rec} {h : Bool} {its fin : List Item} {vs9 : List Value} {fs : Value} {L L2 : Nat} (H : EntX w b r h its fs L) (e : w9.heap[b]? = w.heap[b]?) (hO : w9.ownsRow L2 247 1 (.slice A9 n9 c9) n9 vs9) (hn : fin.length = n9) (hA : Al2 (ItemV h) fin vs9) :
 EntX (w9.setCell ⟨b, 18, none⟩ (.slice A9 n9 c9)) b r h fin fs L2 := by
 obtain ⟨x, a, X, co, vs, ht, hb, hO1, hA1⟩ := H
 rw [<- e] at hb
 subst hn
 refine ⟨x, a, A9, c9, vs9, ht, ?_, row_set hO hb (by decide), hA⟩
 have := heap_setCell_same w9 b 18 _ 176 (.slice A9 fin.length c9) hb
 simpa [exC] using this
theorem pdeX_any (D o n c F M DD : Nat) (r : Rec) (h : Bool) (its fin : List Item) (img : List UInt8) (w : World) (hsrc : SrcO w D o r.bytes) (hn : r.bytes.length = n) (hnc : n <= c) (hok : RokX r its) (hF : FsR w F M DD h img) (hct : ContOk img its fin) :
 Calls Tryz.prog 103 #[.slice (some ⟨D, o, none⟩) n c, PB F] w fun e w' => ∃ b, e = .returned (.tuple #[PB b, .nilIface]) /\ w.heap.size <= b /\ EntX w' b r h fin (PB F) /\ Below w.heap.size w w' := by
 obtain ⟨hn2, hn34, hn250⟩ := hok.len2
 rw [hn] at hn2 hn34 hn250
 have c0 : w.cell? ⟨D, o, none⟩ = some (.int .u8 n) := by
  have := hsrc.2 0 _ r.hasX.b0
  rw [<- hn2, bv_u8 n (by omega)] at this
  exact this
 have z1 : (n : Int) <= (c : Int) := by omega
 have hFl := hF.lt
 obtain ⟨hv, f13, hHV⟩ := hF.exts
 have HF := Lib.hid hF; have HCT := Lib.hid hct; have HOK := Lib.hid hok
 have H120 := Lib.hid (fun (W : World) (hW : Below w.heap.size w W) => entX120 D o n c r h its hv W (hsrc.later hW) hn hnc hok (hHV.later hW))
 have HHV := Lib.hid (fun W (hW : Below w.heap.size w W) => hHV.later hW)
 have F13 := Lib.hid f13
 clear hn2 hn hsrc hF hct hok hHV
 go_enter Tryz.func103, Tryz.ntmps103
 go_wp2_with (fail)
 go_region_held3 (fun W => W.cell? ⟨F, 13, none⟩ = some hv) (first | exact f13 | exact (hb.cell (p := ⟨F, 13, none⟩) hFl).trans f13) (first
  | (go_at_call 120; go_must (refine (H120.out _ (Below.refl _ _).drew).mono ?_); go_must (rintro e w1 ⟨b, rfl, hbs, hE, hb⟩)))
 have hbs' : w.heap.size <= b := hbs
 have fz := hE.cells.frozen 16
 have f16 := hE.cells.fs
 have hE2 : EntX (w1.setCell ⟨b, 16, none⟩ (PB F)) b r h its (PB F) w.heap.size := hE.setFs
 have hbw : Below w.heap.size w w1 := (Below.refl _ _).drew.trans hb
 have hbw2 : Below w.heap.size w (w1.setCell ⟨b, 16, none⟩ (PB F)) := hbw.setCell (by exact hbs') _
 have k11 := (HF.out.later hbw2).sus
 obtain ⟨X, co, vs, k18, hO, hA⟩ := hE2.cells.exts
 have hne : 1 <= its.length := HOK.out.one
 have hN20 : its.length <= 20 := HOK.out.cnt
 have HE2 := Lib.hid hE2; have HBW := Lib.hid hbw; have HO := Lib.hid hO; have HAL := Lib.hid hA; have HBW2 := Lib.hid hbw2
 clear hE hE2 hb hbw hO hA hbw2
 go_upto_region 11 with (fail)
 clear f16 fz k11
 have hAl := HAL.out
 obtain ⟨N, hN⟩ : ∃ N, its.length = N := ⟨_, rfl⟩
 rw [hN] at hne hN20 k18 HO ⊢
 obtain ⟨g, rfl, hg0, hgl, hgc⟩ := row_addr HO.out hne
 have HGC := Lib.hid hgc; have HN := Lib.hid hN
 clear hgc hN hAl
 generalize w1.setCell ⟨b, 16, none⟩ (PB F) = wA at HE2 HBW2 HO HGC hgl k18 ⊢
 rcases HCT.out with ⟨hfin, hno⟩ | ⟨its0, x, y, z, its1, e1, e2, hno, h1, h20, hok1, hz, hx4, hy2, hz2, hfit, hby⟩
 ·
  obtain ⟨it, hit⟩ : ∃ it, its[N - 1]? = some it := ⟨its[N - 1]'(by rw [HN.out]; omega), List.getElem?_eq_getElem _⟩
  obtain ⟨v, hv⟩ : ∃ v, vs[N - 1]? = some v := ⟨vs[N - 1]'(by rw [<- HAL.out.1, HN.out]; omega), List.getElem?_eq_getElem _⟩
  obtain ⟨ty, cs, rfl, hty⟩ := item_not279 (HAL.out.2 (N - 1) it v hit hv) (fun x y z e => hno x y z (by rw [List.getLast?_eq_getElem?, HN.out, hit, e]))
  have q1 := fun (v : Value) (w : World) => as279_no ty v w hty
  have kv := HGC.out (N - 1) _ hv
  have HFIN := Lib.hid hfin
  clear hty hit hv hno hfin
  obtain ⟨K, hK⟩ : ∃ K, N - 1 = K := ⟨_, rfl⟩
  rw [hK] at kv
  have zw : IntKind.i64.wrap ((N : Int) - 1) = (K : Int) := by rw [IntKind.wrap_i64]; omega
  have zN : (0 : Int) <= (K : Int) := by omega
  have zN2 : (K : Int) < (N : Int) := by omega
  clear hK
  refine wp_loop_rounds 1 ?_
  rw [rounds_succ]
  go_upto_region 11 with (fail)
  go_region_held3 (fun W => W.cell? ⟨b, 18, none⟩ = some (.slice (some ⟨g, 0, none⟩) N co) /\ W.cell? ⟨g, K, none⟩ = some (.iface ty (.agg cs))) (first | exact ⟨k18, kv⟩ | go_keep) (first
   | (refine asStep rfl ?_; refine wp_store_row 279 _ _ rfl wA.heap.size #[.int .u32 0, .int .u32 0, .int .u32 0] rfl rfl 279 _ (heap_alloc_new wA.drew _) (by kernel_rfl) (by rfl) (by rfl) ?_))
  all_goals
   clear q1 k18 kv zw zN zN2
   go_wp2
   go_ret2
   have hbA : Below wA.heap.size wA (wA.alloc (.cells #[.int .u32 0, .int .u32 0, .int .u32 0] 279)).drew := ((Below.refl _ _).alloc (Nat.le_refl _) _).drew
   exact ⟨b, rfl, hbs', by rw [HFIN.out]; exact (HE2.out.later hbA).low, HBW2.out.trans (hbA.mono HBW2.out.size)⟩
 ·
  have hKN : its0.length + 1 = N := by rw [<- HN.out, e1, List.length_append]; rfl
  obtain ⟨K, hK⟩ : ∃ K, its0.length = K := ⟨_, rfl⟩
  rw [hK] at hKN
  have hitK : its[K]? = some (.ce x y z) := by rw [e1, <- hK, List.getElem?_append_right (Nat.le_refl _), Nat.sub_self]; rfl
  obtain ⟨v, hv⟩ : ∃ v, vs[K]? = some v := ⟨vs[K]'(by rw [<- HAL.out.1, HN.out]; omega), List.getElem?_eq_getElem _⟩
  have hvc : v = .iface 279 (.agg #[.int .u32 x, .int .u32 y, .int .u32 z]) := HAL.out.2 K _ v hitK hv
  subst hvc
  have q1 := as279
  have kv := HGC.out K _ hv
  have zw : IntKind.i64.wrap ((N : Int) - 1) = (K : Int) := by rw [IntKind.wrap_i64]; omega
  have zN : (0 : Int) <= (K : Int) := by omega
  have zN2 : (K : Int) < (N : Int) := by omega
  have HKN := Lib.hid hKN; have HKL := Lib.hid hK; have HE1 := Lib.hid e1; have HE2' := Lib.hid e2; have HNO := Lib.hid hno; have HOK1 := Lib.hid hok1; have HZ := Lib.hid hz; have HBY := Lib.hid hby
  clear hKN hK e1 e2 hno hok1 hz hby hitK hv
  refine wp_loop_rounds 2 ?_
  rw [rounds_succ]
  go_upto_region 11 with (fail)
  go_region_held3 (fun W => W.cell? ⟨b, 18, none⟩ = some (.slice (some ⟨g, 0, none⟩) N co) /\ W.cell? ⟨g, K, none⟩ = some (.iface 279 (.agg #[.int .u32 x, .int .u32 y, .int .u32 z]))) (first | exact ⟨k18, kv⟩ | go_keep) (first
   | (refine asStep rfl ?_; refine wp_store_row 279 _ _ rfl wA.heap.size #[.int .u32 x, .int .u32 y, .int .u32 z] rfl rfl 279 _ (heap_alloc_new wA.drew _) (by kernel_rfl) (by rfl) (by rfl) ?_))
  all_goals
   clear q1 kv zw zN zN2
   have hC : (wA.alloc (.cells #[.int .u32 x, .int .u32 y, .int .u32 z] 279)).drew.heap[wA.heap.size]? = some (.cells ([.int .u32 x, .int .u32 y, .int .u32 z] : List Value).toArray 279) := heap_alloc_new wA _
   have hbA : Below wA.heap.size wA (wA.alloc (.cells #[.int .u32 x, .int .u32 y, .int .u32 z] 279)).drew := ((Below.refl _ _).alloc (Nat.le_refl _) _).drew
   obtain ⟨C, hCe⟩ : ∃ C, wA.heap.size = C := ⟨_, rfl⟩
   rw [hCe] at hC ⊢
   generalize (wA.alloc (.cells #[.int .u32 x, .int .u32 y, .int .u32 z] 279)).drew = wB at hC hbA ⊢
   go_upto_region 16 with (first
    | (refine atLoad 279 ?_; go_must (refine wpList_loadB rfl 279 _ rfl (b := C) rfl [.int .u32 x, .int .u32 y, .int .u32 z] 279 hC (by kernel_rfl) (by kernel_rfl) ?_))
    | (go_at_call 125; go_must (refine (coff_any _ _ _ _).mono ?_); rintro e w5 ⟨rfl, hb5⟩; have hC := (hb5.block C (Array.getElem?_eq_some_iff.1 hC).1).trans hC; have hbA := hbA.trans (hb5.mono hbA.size))
    | (go_at_call 124; go_must (refine (clen_any _ _ _ _).mono ?_); rintro e w4 ⟨rfl, hb4⟩; have hC := (hb4.block C (Array.getElem?_eq_some_iff.1 hC).1).trans hC; have hbA := hbA.trans (hb4.mono hbA.size))
    | (go_at_call 123; go_must (refine (loc_any _ _ _ _).mono ?_); rintro e w3 ⟨rfl, hb3⟩; have hC := (hb3.block C (Array.getElem?_eq_some_iff.1 hC).1).trans hC; have hbA := hbA.trans (hb3.mono hbA.size)))
   have hbw5 : Below w.heap.size w w5 := HBW2.out.trans (hbA.mono HBW2.out.size)
   have hz5 : 5 <= z := by
    have h1' := HZ.out
    cases hi1 : its1 with
    | nil => rw [hi1] at h1; simp at h1
    | cons it t =>
      have := (it.bd (HOK1.out it (by rw [hi1]; simp))).1
      rw [hi1] at h1'
      have e : itemsB (it :: t) = it.bytes ++ itemsB t := rfl
      rw [e, List.length_append] at h1'
      omega
   have HBA := Lib.hid hbA; have HB5 := Lib.hid hbw5
   clear hC hbA hbw5
   go_upto_region 17 with (first
    | (at_make; refine asList rfl fun KK hKK => ?_; go_must (refine go_makeN (w0 := w5) (.tmp 84) (.tmp 84) rfl w5.heap.size _ _ _ _ z z rfl rfl rfl rfl (Nat.le_refl _) (by omega) (Below.refl _ _) (Nat.le_refl _) ?_); intro w6 L6 hL6 hl6 hO6 hb6 hs6; refine hKK _ _ ?_; clear hKK KK))
   have hb56 := HB5.out.trans (hb6.mono HB5.out.size)
   have hF6 := HF.out.later hb56
   have f4 := hF6.back
   have f5 := hF6.blk
   have m1 := method_ReadAt ⟨M, 0, none⟩
   have HF6 := Lib.hid hF6
   clear hF6
   go_region_held3 (fun W => W.cell? ⟨F, 4, none⟩ = some (.iface 107 (PB M)) /\ W.cell? ⟨F, 5, none⟩ = some (.int .i64 2048)) (first | exact ⟨f4, f5⟩ | go_keep | exact ⟨(hb7.cell (p := ⟨F, 4, none⟩) (Nat.lt_of_lt_of_le hFl HB5.out.size)).trans f4, (hb7.cell (p := ⟨F, 5, none⟩) (Nat.lt_of_lt_of_le hFl HB5.out.size)).trans f5⟩) (first
    | (go_at_call 185; go_must (refine (readAt_z M DD w5.heap.size w5.heap.size z (x * 2048 + y) z _ img L6 _ (wrapXY x y hx4 hy2) (HF6.out.later (Below.refl _ _).drew).mem hl6.out hO6 (by omega) (by omega) HF6.out.len (by exact hb6.size)).mono ?_); go_must (rintro e w7 ⟨rfl, hO7, hb7⟩)))
   have hb57 : Below w5.heap.size w5 w7 := hb6.drew.trans hb7
   have hbw7 : Below w.heap.size w w7 := HB5.out.trans (hb57.mono HB5.out.size)
   rw [HBY.out] at hO7
   have hsrc7 := srcO0 (own_src hO7 HZ.out.symm)
   have g13 : w7.cell? ⟨F, 13, none⟩ = some hv := (hbw7.cell (p := ⟨F, 13, none⟩) hFl).trans F13.out
   have HPX := Lib.hid (pext_any w5.heap.size 0 z z h hv its1 [] w7 (by rw [List.append_nil]; exact hsrc7) (by rw [List.length_nil, Nat.add_zero]; exact HZ.out.symm) (by decide) (Nat.le_refl _) (by omega) HOK1.out (HHV.out w7 hbw7) (by omega))
   have HB57 := Lib.hid hb57; have HB7 := Lib.hid hbw7
   clear hO7 hO6 hsrc7 hb7 hb6 f4 f5 m1 hs6 hb57 hbw7
   obtain ⟨m1, hm1⟩ : ∃ m, its1.length = m := ⟨_, rfl⟩
   unfold ItemsR at HPX
   rw [hm1] at HPX h1 h20
   have HM1 := Lib.hid hm1
   clear hm1
   go_upto_region 25 with (first
    | (go_at_call 126; go_must (refine HPX.out.mono ?_); rintro e w8 ⟨A8, co8, vs8, rfl, hO8, hA8, hb8⟩))
   obtain ⟨g8, rfl, _, hg8, hc8⟩ := row_addr hO8 h1
   have hb8s := hb8.size
   have hbw8 := Lib.hid (HB7.out.trans (hb8.mono HB7.out.size))
   have hbA8 : Below wA.heap.size wA w8 := HBA.out.trans ((HB57.out.mono HBA.out.size).trans (hb8.mono (Nat.le_trans HBA.out.size HB57.out.size)))
   have hb8w : b < wA.heap.size := HE2.out.lt
   have hE8 := HE2.out.later hbA8
   have k8 := (hbA8.cell (p := ⟨b, 18, none⟩) hb8w).trans k18
   have kf8 := hE8.cells.frozen 18
   have hOK8 : w8.drew.ownsRow w.heap.size 247 1 (.slice (some ⟨g, 0, none⟩) K co) K (vs.take K) := ownsRow_later (row_take (ownsRow_later HO.out hbA8) (by have := HKN.out; omega)) (Below.refl _ _).drew
   have hcap := row_cap HO.out (by omega)
   have hvl8 : vs8.length = m1 := by rw [<- hA8.1]; exact HM1.out
   have hb8l : b < w8.heap.size := Nat.lt_of_lt_of_le hb8w hbA8.size
   have hbne : some b ≠ (Value.slice (some ⟨g, 0, none⟩) K co).ownBlock := by
    obtain ⟨x', a', X', co', vs', _, hbb, _, _⟩ := hE8
    exact row_not hOK8 (show w8.drew.heap[b]? = _ from hbb) (by decide)
   have HE8 := Lib.hid hE8; have HOK8 := Lib.hid hOK8; have HC8 := Lib.hid hc8; have HA8 := Lib.hid hA8; have HVL8 := Lib.hid hvl8; have HBA8 := Lib.hid hbA8; have HNE := Lib.hid hbne
   clear hE8 hOK8 hc8 hA8 hvl8 hbA8 hbne hO8 hb8
   have zw : IntKind.i64.wrap ((N : Int) - 1) = (K : Int) := by have := HKN.out; rw [IntKind.wrap_i64]; omega
   have zN : (0 : Int) <= (K : Int) := by omega
   have zN2 : (K : Int) <= (co : Int) := by have := HKN.out; omega
   have hw8s : w.heap.size <= w8.drew.heap.size := Nat.le_trans HB7.out.size hb8s
   have hKm : K + m1 <= 100000 := by have := HKN.out; omega
   go_region_law (first
    | (refine asStep rfl ?_; refine go_appM (w := w8.drew) (.tmp 135) (.tmp 136) rfl w.heap.size K m1 co co8 g8 (some ⟨g, 0, none⟩) (vs.take K) vs8 rfl HOK8.out rfl HVL8.out (fun j u hu => HC8.out j u hu) (al2_one HA8.out) hKm hw8s ?_; intro A9 c9 w9 hO9 hg9 hb9; have k9 := cell_blk (hg9.block b hb8l HNE.out) k8; have kf9 := frozen_blk (hg9.block b hb8l HNE.out) kf8))
   all_goals
    have hfl : fin.length = K + m1 := by rw [HE2'.out, List.length_append, HKL.out, HM1.out]
    have hAf : Al2 (ItemV h) fin (vs.take K ++ vs8) := by
     rw [HE2'.out]
     exact (Al2.take (xs' := [.ce x y z]) (by rw [<- HE1.out]; exact HAL.out) HKL.out).app HA8.out
    have hE9 := HE8.out.setExts (hg9.block b hb8l HNE.out) hO9 hfl hAf
    have hbw9 : Below w.heap.size w (w9.setCell ⟨b, 18, none⟩ (.slice A9 (K + m1) c9)) := (hbw8.out.trans ((Below.refl _ _).drew.trans hb9)).setCell hbs' _
    have hK1 : 1 <= K + m1 := by omega
    obtain ⟨g9, rfl, hg90, hgl9, hgc9⟩ := row_addr hO9 hK1
    have hg9b : g9 ≠ b := by
     rintro rfl
     obtain ⟨x', a', X', co', vs', _, hbb, _, _⟩ := hE9
     exact row_not (row_set hO9 (show w9.heap[g9]? = _ from (hg9.block g9 hb8l HNE.out).trans HE8.out.choose_spec.choose_spec.choose_spec.choose_spec.choose_spec.2.1) (by decide)) hbb (by decide) rfl
    obtain ⟨it, hit⟩ : ∃ it, fin[K + m1 - 1]? = some it := ⟨fin[K + m1 - 1]'(by omega), List.getElem?_eq_getElem _⟩
    obtain ⟨v, hv⟩ : ∃ v, (vs.take K ++ vs8)[K + m1 - 1]? = some v := ⟨(vs.take K ++ vs8)[K + m1 - 1]'(by rw [<- hAf.1]; omega), List.getElem?_eq_getElem _⟩
    obtain ⟨ty, cs, rfl, hty⟩ := item_not279 (hAf.2 (K + m1 - 1) it v hit hv) (fun x y z e => by
     refine HNO.out x y z ?_
     rw [List.getLast?_eq_getElem?, HM1.out, <- e, <- hit, HE2'.out, List.getElem?_append_right (by rw [HKL.out]; omega), HKL.out]
     congr 1; omega)
    have q1 := fun (v : Value) (w : World) => as279_no ty v w hty
    have kv9 : (w9.setCell ⟨b, 18, none⟩ (.slice (some ⟨g9, 0, none⟩) (K + m1) c9)).cell? ⟨g9, K + m1 - 1, none⟩ = some (.iface ty (.agg cs)) := by
     have := hgc9 _ _ hv
     simp only [World.cell?] at this ⊢
     rw [heap_setCell_other w9 ⟨b, 18, none⟩ g9 _ hg9b]; exact this
    have k18' := hE9.cells
    obtain ⟨X9, co9, vs9, k189, _, _⟩ := k18'.exts
    have k189' : (w9.setCell ⟨b, 18, none⟩ (.slice (some ⟨g9, 0, none⟩) (K + m1) c9)).cell? ⟨b, 18, none⟩ = some (.slice (some ⟨g9, 0, none⟩) (K + m1) c9) := by
     obtain ⟨x', a', X', co', vs', _, hbb, _, _⟩ := HE8.out
     have := heap_setCell_same w9 b 18 _ 176 (.slice (some ⟨g9, 0, none⟩) (K + m1) c9) ((hg9.block b hb8l HNE.out).trans hbb)
     simp only [World.cell?, this]
     rfl
    have HE9 := Lib.hid hE9.low; have HB9 := Lib.hid hbw9
    obtain ⟨K2, hK2⟩ : ∃ K2, K + m1 - 1 = K2 := ⟨_, rfl⟩
    rw [hK2] at kv9
    have zw2 : IntKind.i64.wrap (((K + m1 : Nat) : Int) - 1) = (K2 : Int) := by rw [IntKind.wrap_i64]; omega
    have zN3 : (0 : Int) <= (K2 : Int) := by omega
    have zN4 : (K2 : Int) < ((K + m1 : Nat) : Int) := by omega
    generalize w9.setCell ⟨b, 18, none⟩ (.slice (some ⟨g9, 0, none⟩) (K + m1) c9) = wD at HE9 HB9 kv9 k189' ⊢
    generalize K + m1 = N9 at kv9 k189' zw2 zN3 zN4 ⊢
    clear hE9 hbw9 hty hit hv hgc9 hg90 hgl9 hO9 hg9 hb9 k9 kf9 hAf hfl k18' k189 zw zN zN2 hK2 hg9b k8 kf8 hK1 hKm hw8s hcap hb8w hb8l
    go_wp2
    rw [rounds_succ]
    go_upto_region 11 with (fail)
    go_region_held3 (fun W => W.cell? ⟨b, 18, none⟩ = some (.slice (some ⟨g9, 0, none⟩) N9 c9) /\ W.cell? ⟨g9, K2, none⟩ = some (.iface ty (.agg cs))) (first | exact ⟨k189', kv9⟩ | go_keep) (first
     | (refine asStep rfl ?_; refine wp_store_row 279 _ _ rfl wD.heap.size #[.int .u32 0, .int .u32 0, .int .u32 0] rfl rfl 279 _ (heap_alloc_new wD.drew _) (by kernel_rfl) (by rfl) (by rfl) ?_))
    all_goals
     clear q1 kv9 zw2 zN3 zN4 k189'
     go_wp2
     go_ret2
     have hbA : Below wD.heap.size wD (wD.alloc (.cells #[.int .u32 0, .int .u32 0, .int .u32 0] 279)).drew := ((Below.refl _ _).alloc (Nat.le_refl _) _).drew
     exact ⟨b, rfl, hbs', HE9.out.later hbA, HB9.out.trans (hbA.mono HB9.out.size)⟩
theorem EntX.grown {w w' : World} {e B n co b : Nat} {A : Option Addr} {us : List Value} {r : Rec} {h : Bool} {its : List Item} {fs : Value} {L : Nat} (H : EntX w b r h its fs L) (hO : w.ownsRow B e 1 (.slice A n co) n us) (hne : e ≠ 176) (hne2 : e ≠ 247) (hg : w.grownBy w' (Value.slice A n co).ownBlock) : EntX w' b r h its fs L := by
 obtain ⟨x, a, X, c, vs, ht, hb, hO1, hA⟩ := H
 refine ⟨x, a, X, c, vs, ht, ?_, World.ownsRow.kept hO1 hg ?_, hA⟩
 . rw [hg.block b (Array.getElem?_eq_some_iff.1 hb).1 (row_not hO hb (fun e' => hne e'.symm))]; exact hb
 . rcases hO1.2 with ⟨hv, _⟩ | ⟨g, cap, cur, hv, _, hg', _⟩
   . rw [hv]; simp [Value.ownBlock]
   . rw [hv]
     exact .inr (row_not hO hg' (fun e' => hne2 e'.symm))
structure RX where
 r : Rec
 fi : List Item
 fo : List Item
 nm : List UInt8
def RX.bytes (x : RX) : List UInt8 := x.r.bytes
def EntsR (w : World) (bs : List Nat) (rs : List RX) (fs : Value) : Prop := bs.length = rs.length /\ ∀ (k b : Nat) (x : RX), bs[k]? = some b -> rs[k]? = some x -> EntX w b x.r true x.fo fs
theorem EntsR.nil (w : World) (fs : Value) : EntsR w [] [] fs := ⟨rfl, fun k b r h => by simp at h⟩
theorem EntsR.later {w w' : World} {bs : List Nat} {rs : List RX} {fs : Value} (h : EntsR w bs rs fs) (hb : Below w.heap.size w w') : EntsR w' bs rs fs :=
 ⟨h.1, fun k b r h1 h2 => (h.2 k b r h1 h2).later hb⟩
theorem EntsR.grown {w w' : World} {e B n co : Nat} {A : Option Addr} {us : List Value} {bs : List Nat} {rs : List RX} {fs : Value} (h : EntsR w bs rs fs) (hO : w.ownsRow B e 1 (.slice A n co) n us) (hne : e ≠ 176) (hne2 : e ≠ 247) (hg : w.grownBy w' (Value.slice A n co).ownBlock) : EntsR w' bs rs fs :=
 ⟨h.1, fun k b r h1 h2 => (h.2 k b r h1 h2).grown hO hne hne2 hg⟩
theorem EntsR.snoc {w : World} {bs : List Nat} {rs : List RX} {fs : Value} {b : Nat} {r : RX} (h : EntsR w bs rs fs) (hb : EntX w b r.r true r.fo fs) : EntsR w (bs ++ [b]) (rs ++ [r]) fs := by
 refine ⟨by simp [h.1], fun k b' r' h1 h2 => ?_⟩
 by_cases hlt : k < bs.length
 . rw [List.getElem?_append_left hlt] at h1
   rw [List.getElem?_append_left (by rw [<- h.1]; exact hlt)] at h2
   exact h.2 k b' r' h1 h2
 . rw [List.getElem?_append_right (by omega)] at h1
   rw [List.getElem?_append_right (by rw [<- h.1]; omega)] at h2
   have hk : k = bs.length := by
    have := (List.getElem?_eq_some_iff.1 h1).1
    simp at this; omega
   subst hk
   rw [Nat.sub_self] at h1
   rw [h.1, Nat.sub_self] at h2
   simp at h1 h2
   subst h1; subst h2
   exact hb
def DirX (w w' : World) (F : Nat) (rs : List RX) (e : Ending) : Prop := ∃ A co bs, e = .returned (.tuple #[.slice A rs.length co, .nilIface]) /\ w'.ownsRow w.heap.size 116 1 (.slice A rs.length co) rs.length (bs.map PB) /\ EntsR w' bs rs (PB F) /\ (∀ b ∈ bs, w.heap.size <= b) /\ Below w.heap.size w w'
structure RdX (img : List UInt8) (x : RX) : Prop where
 ok : RokX x.r x.fi
 cont : ContOk img x.fi x.fo
 one : 1 <= x.fo.length
 cnt : x.fo.length <= 100
 nm : x.r.self = false -> x.r.par = false -> NmAt x.fo x.nm
 no : (x.r.self || x.r.par) = true -> x.nm = []
theorem pdesX_any (D n c F M DD : Nat) (l img : List UInt8) (rs : List RX) (w : World) (hsrc : Src w D l) (hl : l.length = n) (hnc : n <= c) (hn : n <= 1000000) (hF : FsR w F M DD true img) (hR : RecsAt l 0 (rs.map RX.bytes)) (hok : ∀ r ∈ rs, RdX img r) (hrl : rs.length <= 1000) :
 Calls Tryz.prog 135 #[.slice (some ⟨D, 0, none⟩) n c, PB F] w fun e w' => DirX w w' F rs e := by
 have HS := Lib.hid hsrc; have HL := Lib.hid hl; have HF := Lib.hid hF; have HR := Lib.hid hR; have HOK := Lib.hid hok
 clear hsrc hl hF hR hok
 go_enter Tryz.func135, Tryz.ntmps135
 go_wp2_with (at_make; refine asList rfl fun KK hKK => ?_; refine go_makeV under181 info116 (by decide) (.const (.int .i64 0)) (.const (.int .i64 20)) rfl w.heap.size .i64 .i64 20 rfl rfl (by decide) (Nat.le_refl _) ?_; intro w1 hO1 hb1 hs1; refine hKK _ _ ?_; clear hKK KK)
 go_loopw [6, 7, 8] (fun ev cv iv wr => ∃ (k i : Nat) (z : Int) (A : Option Addr) (co : Nat) (bs : List Nat), k <= rs.length /\ iv = .int .i64 i /\ cv = .int .i64 z /\ i <= n + 2048 /\ Hid (RecsAt l i ((rs.drop k).map RX.bytes)) /\ ev = .slice A k co /\ wr.ownsRow w.heap.size 116 1 (.slice A k co) k (bs.map PB) /\ Hid (EntsR wr bs (rs.take k) (PB F)) /\ Hid (∀ b ∈ bs, w.heap.size <= b) /\ Below w.heap.size w wr) (fun _ _ iv _ => n + 4096 - (intOf iv).toNat)
 case atStart => exact ⟨0, 0, 0, _, _, [], by omega, rfl, rfl, by omega, HR, rfl, hO1, EntsR.nil _ _, by simp [Hid], hb1⟩
 case round =>
  clear hO1 hb1 hs1
  obtain ⟨k, i, z, A, co, bs, hk, rfl, rfl, hi, hR, rfl, hO, hE, hB, hb⟩ := hrel
  have hFw := HF.out.later hb
  have f5 := hFw.blk
  have f11 := hFw.sus
  have HO := Lib.hid hO
  clear hO HR
  rcases hR.out.split with ⟨h1, h2⟩ | ⟨h1, h2, h3⟩ | ⟨rb, rs', h1, h2, h3, h4⟩
  . rw [HL.out] at h1
    have hke : k = rs.length := by
     have : (rs.drop k).length = 0 := by simpa using congrArg List.length h2
     rw [List.length_drop] at this; omega
    subst hke
    clear hR h2 f5 f11 hFw
    go_wp2_with (fail)
    go_ret2
    refine ⟨A, co, bs, rfl, HO.out, ?_, hB.out, hb⟩
    have := hE.out
    rwa [List.take_length] at this
  . rw [HL.out] at h1
    have c0 : wr.cell? ⟨D, i, none⟩ = some (.int .u8 0) := by
     rw [hb.cell (p := ⟨D, i, none⟩) HS.out.lt]; exact HS.out.cell i 0 h2
    have HR3 := Lib.hid h3
    clear hR h2 h3 hFw
    obtain ⟨m, hm⟩ : ∃ m, i % 2048 = m := ⟨_, rfl⟩
    have hmod : (i : Int) % 2048 = (m : Int) := by omega
    have hml : m < 2048 := by omega
    have HM := Lib.hid hm
    clear hm
    go_wp2_with (fail)
    go_quiet (fail)
    go_wp2_with (fail)
    have hbd : ∀ q, Below wr.heap.size wr (wr.drewN q) := fun q => below_drewN (Below.refl _ _) q
    go_roundw
    case rel =>
     refine ⟨k, i + (2048 - m), _, A, co, bs, hk, by congr 1; omega, rfl, by omega, ?_, rfl, ownsRow_later HO.out (hbd _), hE.out.later (hbd _), hB, hb.trans ((hbd _).mono hb.size)⟩
     unfold Hid; rw [<- HM.out]; exact HR3.out
    case measure => simp [intOf]; omega
  . obtain ⟨r, hr, hrr⟩ : ∃ r, rs[k]? = some r /\ rb = r.bytes /\ rs' = (rs.drop (k + 1)).map RX.bytes := by
     cases hd : rs.drop k with
     | nil => rw [hd] at h1; simp at h1
     | cons r t =>
       rw [hd] at h1
       simp only [List.map_cons, List.cons.injEq] at h1
       have hk2 : k < rs.length := by
        by_cases hk2 : k < rs.length
        . exact hk2
        . rw [List.drop_eq_nil_of_le (by omega)] at hd; simp at hd
       have e := List.drop_eq_getElem_cons hk2
       rw [hd] at e
       injection e with e1 e2
       exact ⟨r, by rw [List.getElem?_eq_getElem hk2, <- e1], h1.1.symm, by rw [<- e2]; exact h1.2.symm⟩
    obtain ⟨rfl, rfl⟩ := hrr
    change Holds l i r.r.bytes at h2
    change i + r.r.bytes.length <= _ at h3
    change RecsAt l (i + r.r.bytes.length) _ at h4
    have hk2 : k < rs.length := (List.getElem?_eq_some_iff.1 hr).1
    have hrd := HOK.out r (List.mem_of_getElem? hr)
    obtain ⟨q, hq⟩ : ∃ q, r.r.bytes.length = q := ⟨_, rfl⟩
    obtain ⟨hrl2, hq34, hq140⟩ := hrd.ok.len2
    rw [hq] at hrl2 hq34 hq140
    rw [hq, HL.out] at h3
    have hat : ∀ W : World, Below w.heap.size w W -> SrcO W D i r.r.bytes := by
     intro W hW
     refine ⟨Nat.lt_of_lt_of_le HS.out.lt hW.size, fun j b hj => ?_⟩
     rw [hW.cell (p := ⟨D, i + j, none⟩) HS.out.lt]
     refine HS.out.cell (i + j) b ?_
     rw [h2 j (List.getElem?_eq_some_iff.1 hj).1]; exact hj
    have c0 : wr.cell? ⟨D, i, none⟩ = some (.int .u8 q) := by
     have := (hat wr hb).2 0 _ r.r.hasX.b0
     rw [<- hrl2, bv_u8 q (by omega)] at this
     exact this
    have hbl := hE.out.1
    rw [List.length_take, Nat.min_eq_left hk] at hbl
    have HBL := Lib.hid hbl
    clear hbl
    have HAT := Lib.hid hat; have HQ := Lib.hid hq; have HR4 := Lib.hid h4; have HRK := Lib.hid hr; have HRD := Lib.hid hrd
    have hDl := HS.out.lt
    obtain ⟨hv, f13, hHV⟩ := hFw.exts
    obtain ⟨g13, c13, R13, rfl, hg13, hR13, e13, e13'⟩ : ∃ g c' R, hv = .slice (some ⟨g, 0, none⟩) 1 c' /\ g < wr.heap.size /\ R < wr.heap.size /\ wr.cell? ⟨g, 0, none⟩ = some (.iface 255 (PB R)) /\ wr.cell? ⟨R, 4, none⟩ = some (.int .i64 36) := hHV
    clear hR h1 h2 h4 hat hq hr hrl2 hrd
    have HFW := Lib.hid hFw
    clear hFw e13'
    have hFl := HFW.out.lt
    have m1 := method_Relocated ⟨R13, 0, none⟩
    go_upto_region 14 with (first
     | (go_at_call 103; go_must (refine (pdeX_any D i q (c - i) F M DD r.r true r.fi r.fo img _ (HAT.out _ hb) HQ.out (by omega) HRD.out.ok HFW.out HRD.out.cont).mono ?_); rintro e w2 ⟨b, rfl, hbs, hE2, hb2⟩; have g11 := (HFW.out.later hb2).sus; have g13' := (hb2.cell (p := ⟨F, 13, none⟩) hFl).trans f13; have e13' := (hb2.cell (p := ⟨g13, 0, none⟩) hg13).trans e13; have hbw2 := hb.trans (hb2.mono hb.size); have HO2 := Lib.hid (ownsRow_later HO.out hb2)))
    have HE2 := Lib.hid hE2
    clear hE2 f11 f13 f5 c0 e13
    refine wp_loop_rounds 2 ?_
    rw [rounds_succ]
    go_wp2_with (first
     | (go_at_call 244; go_must (refine (relocated_any R13 b r.r r.fo _ _ HE2.out HRD.out.one HRD.out.cnt).mono ?_); rintro e w3 ⟨rfl, hb3⟩))
    rw [rounds_succ]
    have HO3 := Lib.hid (ownsRow_later HO2.out hb3)
    have HE3 := Lib.hid (HE2.out.later hb3)
    have hbw3 := hbw2.trans (hb3.mono hbw2.size)
    go_wp2_with (first
     | (at_builtin; refine asList rfl fun KK hKK => ?_; go_must (refine go_appV (w := w3) under181 info116 (by decide) (.tmp 76) (.tmp 78) rfl w.heap.size w3.heap.size k A co (bs.map PB) (PB b) (by rw [List.length_map]; exact HBL.out.symm) rfl HO3.out ((Below.refl _ _).alloc (Nat.le_refl _) _) (by show (w3.heap.push _)[w3.heap.size]? = _; rw [Array.getElem?_push_size]) rfl rfl rfl (by omega) hbw3.size ?_); intro A3 c3 w4 hO4 hb4 hg4; refine hKK _ _ ?_; clear hKK KK))
    go_roundw
    case rel =>
     refine ⟨k + 1, i + q, _, A3, c3, bs ++ [b], hk2, by simp, rfl, by omega, ?_, rfl, by rw [List.map_append]; exact hO4, ?_, ?_, hbw3.trans hb4⟩
     . unfold Hid; have := HR4.out; rw [HQ.out] at this; exact this
     . unfold Hid
       rw [<- List.take_append_getElem hk2]
       have e : rs[k] = r := by have := HRK.out; rw [List.getElem?_eq_getElem hk2] at this; simpa using this
       rw [e]
       exact EntsR.grown (((hE.out.later hb2).later hb3).snoc HE3.out) HO3.out (by decide) (by decide) hg4
     . unfold Hid
       intro x hx
       rcases List.mem_append.1 hx with h | h
       . exact hB.out x h
       . rw [List.mem_singleton] at h; subst h; exact Nat.le_trans hb.size hbs
    case measure => simp [intOf]; omega
end Go.Proofs.YtilgpaeeleknhaaGreatDoor
