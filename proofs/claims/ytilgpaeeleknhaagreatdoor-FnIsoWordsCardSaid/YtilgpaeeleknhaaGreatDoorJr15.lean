/- A part of the proof of laws.FnIsoRock (see the last text). -/
import Derived.Test.YtilgpaeeleknhaaGreatDoorJr14
import Derived.Deep.DeepCutAuto
import Derived.Laws.BitsAllLaws
set_option linter.unusedSimpArgs false
set_option linter.unusedVariables false
set_option maxRecDepth 1000000
set_option maxHeartbeats 8000000
namespace Go.Proofs.YtilgpaeeleknhaaGreatDoor
open Go Go.RowKit
def pxKind (f : File) : Nat := if f.dir then 16384 else if f.target.toList.isEmpty then 32768 else 40960
def pxMode (f : File) : Nat := (f.perm &&& 4095) ||| pxKind f
theorem pxKind_lt (f : File) : pxKind f < 65536 := by unfold pxKind; split <;> (try split) <;> decide
theorem pxMode_lt (f : File) : pxMode f < 65536 := by
 unfold pxMode
 have h1 : f.perm &&& 4095 < 2 ^ 16 := Nat.lt_of_le_of_lt Nat.and_le_right (by decide)
 exact Nat.or_lt_two_pow h1 (pxKind_lt f)
theorem pxMode_bits (f : File) (k : Nat) (hk : pxKind f = k) (h3 : f.perm < 4294967296) : bits .or .u32 (bits .and .u32 (f.perm : Int) 4095) (k : Int) = ((pxMode f : Nat) : Int) := by
 have h := pxKind_lt f
 have h1 : f.perm &&& 4095 < 4294967296 := Nat.lt_of_le_of_lt Nat.and_le_right (by decide)
 rw [show (4095 : Int) = ((4095 : Nat) : Int) from rfl, u32_and_nat _ _ h3 (by decide), u32_or_nat _ _ h1 (by omega)]
 unfold pxMode
 rw [hk]
def manyB (ns : List Nat) : List UInt8 := ns.flatMap both32
theorem manyB_snoc (ns : List Nat) (n : Nat) : manyB (ns ++ [n]) = manyB ns ++ both32 n := by simp [manyB]
theorem manyB_len : ∀ ns, (manyB ns).length = 8 * ns.length
 | [] => rfl
 | n :: ns => by
   have := manyB_len ns
   simp only [manyB, List.flatMap_cons, List.length_append, both32_len, List.length_cons] at this ⊢
   omega
def pxNums (f : File) (links : Nat) : List Nat := [pxMode f, links, f.uid, f.gid]
def pxB (f : File) (links : Nat) : List UInt8 := suspB 80 88 (manyB (pxNums f links))
theorem px_row (w : World) (cs : Array Value) (m l u g : Nat) (ns : List Nat) (hns : ns = [m, l, u, g]) :
 Below w.heap.size w ((w.alloc (.cells cs 64)).alloc (.cells #[.int .u32 m, .int .u32 l, .int .u32 u, .int .u32 g] 35)) /\ w.heap.size + 1 < ((w.alloc (.cells cs 64)).alloc (.cells #[.int .u32 m, .int .u32 l, .int .u32 u, .int .u32 g] 35)).heap.size /\
 ∀ (k : Nat) (hk : k < ns.length), ((w.alloc (.cells cs 64)).alloc (.cells #[.int .u32 m, .int .u32 l, .int .u32 u, .int .u32 g] 35)).cell? ⟨w.heap.size + 1, k, none⟩ = some (.int .u32 (ns[k] : Nat)) := by
 subst hns
 refine ⟨((Below.refl _ _).alloc (Nat.le_refl _) _).alloc (by simp) _, by simp, fun k hk => ?_⟩
 have h0 := heap_alloc_new (w.alloc (.cells cs 64)) (.cells #[.int .u32 m, .int .u32 l, .int .u32 u, .int .u32 g] 35)
 rw [show (w.alloc (.cells cs 64)).heap.size = w.heap.size + 1 by simp] at h0
 simp only [World.cell?, h0]
 have h4 : k < 4 := hk
 match k, h4 with
 | 0, _ => rfl
 | 1, _ => rfl
 | 2, _ => rfl
 | 3, _ => rfl
theorem rockPX_any (x : XNode) (links : Nat) (w : World) (hl : links < 4294967296) (h1 : x.f.uid < 4294967296) (h2 : x.f.gid < 4294967296) (h3 : x.f.perm < 4294967296) :
 Calls Tryz.prog 47 #[.agg x.cells.toArray, .int .u32 links] w fun e w' => (∃ v, e = .returned v /\ Own w' w.heap.size v (pxB x.f links)) /\ Below w.heap.size w w' := by
 have hns : ∀ n ∈ pxNums x.f links, n < 4294967296 := by
  intro n hn
  simp only [pxNums, List.mem_cons, List.not_mem_nil, or_false] at hn
  have := pxMode_lt x.f
  rcases hn with rfl | rfl | rfl | rfl <;> omega
 have HN := Lib.hid hns
 have HM := Lib.hid (fun k hk => pxMode_bits x.f k hk h3)
 clear hns
 go_enter Tryz.func47, Tryz.ntmps47
 go_upto_region 9 with (fail)
 . have hm : bits .or .u32 (bits .and .u32 (x.f.perm : Int) 4095) 16384 = ((pxMode x.f : Nat) : Int) := HM.out 16384 (by unfold pxKind; rw [if_pos ‹x.f.dir = true›])
   rename_i hd K0 a0
   rw [hm]; clear hm hd
   obtain ⟨hb1, hW, hc1⟩ := px_row w x.cells.toArray (pxMode x.f) links x.f.uid x.f.gid (pxNums x.f links) rfl
   generalize (w.alloc (.cells x.cells.toArray 64)).alloc (.cells #[.int .u32 (pxMode x.f : Nat), .int .u32 links, .int .u32 x.f.uid, .int .u32 x.f.gid] 35) = w2 at hb1 hc1 hW ⊢
   obtain ⟨W1, hW1⟩ : ∃ W1, w.heap.size + 1 = W1 := ⟨_, rfl⟩
   rw [hW1] at hc1 hW ⊢
   have HB := Lib.hid hb1; have HC := Lib.hid hc1
   obtain ⟨ns, hns⟩ : ∃ ns, pxNums x.f links = ns := ⟨_, rfl⟩
   have h4 : ns.length = 4 := by rw [<- hns]; rfl
   have HF : Hid (pxB x.f links = suspB 80 88 (manyB ns)) := by unfold pxB; rw [hns]; exact rfl
   rw [hns] at HC HN
   have H4 := Lib.hid h4
   clear hb1 hc1 hW1 hns h4
   go_loopw [6, 38] (fun bv iv wr => ∃ (k n c : Nat) (A : Option Addr), k <= 4 /\ n <= 8 * k /\ Hid (n = (manyB (ns.take k)).length) /\ iv = .int .i64 k /\ bv = .slice A n c /\ Own wr w2.heap.size (.slice A n c) (manyB (ns.take k)) /\ Below w2.heap.size w2 wr) (fun _ iv _ => 4 - (intOf iv).toNat)
   case atStart => exact ⟨0, 0, 0, none, by decide, by decide, rfl, rfl, rfl, Own.nil _ _, Below.refl _ _⟩
   case round =>
    obtain ⟨k, n, c, A, hk, hn, HK, rfl, rfl, ho, hb⟩ := hrel
    by_cases h4 : k < 4
    . obtain ⟨q, hq⟩ : ∃ q, ns[k]'(by rw [H4.out]; exact h4) = q := ⟨_, rfl⟩
      have hcell : wr.cell? ⟨W1, k, none⟩ = some (.int .u32 (q : Nat)) := by
       rw [hb.cell (p := ⟨W1, k, none⟩) hW, HC.out k (by rw [H4.out]; exact h4), hq]
      have hq32 : q < 4294967296 := HN.out q (by rw [<- hq]; exact List.getElem_mem _)
      have htk : Hid (manyB (ns.take (k + 1)) = manyB (ns.take k) ++ both32 q) := by
       have : ns.take (k + 1) = ns.take k ++ [q] := by rw [<- hq]; exact List.take_succ_eq_append_getElem (by rw [H4.out]; exact h4)
       rw [this, manyB_snoc]; exact rfl
      have hlen : Hid ((manyB (ns.take k)).length + (both32 q).length <= 1000000000) := by rw [<- HK.out, both32_len]; exact Lib.hid (by omega)
      clear hq
      go_wp2_with (first
       | (at_builtin; refine asList rfl fun K hK => ?_; refine go_appB (w0 := w2) (w := w3) (.tmp 42) (.tmp 44) rfl w2.heap.size w3.heap.size _ _ (manyB (ns.take k)) (both32 q) rfl ho' rfl ho3.rd hlen.out hb3 (Nat.le_refl _) ?_; rintro A4 c4 w4 L4 hL4 hl4 hl4' ho4 hb4 hg4; clear hg4; have HL4 : Hid (L4 = manyB (ns.take (k + 1))) := by rw [htk.out]; exact hL4
          have hl5 : L4.length <= 8 * (k + 1) := by rw [<- HK.out, both32_len] at hl4; omega
          clear hl4 hl4'; refine hK _ _ ?_; clear hK K)
       | (go_at_call 58; go_must (refine (both32W q wr hq32).mono ?_); rintro e w3 ⟨A3, c3, rfl, ho3, hx3⟩; have ho' := ho.later hx3; have hb3 := hb.trans (hx3.mono hb.size)))
      go_roundw
      case rel => exact ⟨k + 1, L4.length, c4, A4, by omega, hl5, by rw [HL4.out]; exact rfl, by simp, rfl, by rw [<- HL4.out]; exact ho4, hb4⟩
      case measure => show 4 - ((k : Int) + 1).toNat < 4 - (k : Int).toNat; omega
    . have e : k = 4 := by omega
      subst e
      have et : ns.take 4 = ns := List.take_of_length_le (by rw [H4.out]; exact Nat.le_refl _)
      rw [et] at ho HK
      go_wp2_with (first
       | (go_at_call 51; refine (suspW_of 80 88 A c n (manyB ns) wr HK.out (by omega) ho.rd).mono ?_; rintro e w5 ⟨⟨v5, rfl, ho5⟩, hx5⟩; have hb5 := hb.trans (hx5.mono hb.size)))
      go_ret
      refine ⟨⟨_, rfl, ?_⟩, HB.out.trans (hb5.mono HB.out.size)⟩
      rw [HF.out]
      exact ho5.lower (Nat.le_trans HB.out.size hb.size)
 . have hm : bits .or .u32 (bits .and .u32 (x.f.perm : Int) 4095) 40960 = ((pxMode x.f : Nat) : Int) := HM.out 40960 (by unfold pxKind; rw [if_neg (by rw [‹x.f.dir = false›]; decide), if_neg (by have h := ‹(!x.f.target.toList.isEmpty) = true›; simpa using h)])
   rename_i hd ht K0 a0
   rw [hm]; clear hm hd ht
   obtain ⟨hb1, hW, hc1⟩ := px_row w x.cells.toArray (pxMode x.f) links x.f.uid x.f.gid (pxNums x.f links) rfl
   generalize (w.alloc (.cells x.cells.toArray 64)).alloc (.cells #[.int .u32 (pxMode x.f : Nat), .int .u32 links, .int .u32 x.f.uid, .int .u32 x.f.gid] 35) = w2 at hb1 hc1 hW ⊢
   obtain ⟨W1, hW1⟩ : ∃ W1, w.heap.size + 1 = W1 := ⟨_, rfl⟩
   rw [hW1] at hc1 hW ⊢
   have HB := Lib.hid hb1; have HC := Lib.hid hc1
   obtain ⟨ns, hns⟩ : ∃ ns, pxNums x.f links = ns := ⟨_, rfl⟩
   have h4 : ns.length = 4 := by rw [<- hns]; rfl
   have HF : Hid (pxB x.f links = suspB 80 88 (manyB ns)) := by unfold pxB; rw [hns]; exact rfl
   rw [hns] at HC HN
   have H4 := Lib.hid h4
   clear hb1 hc1 hW1 hns h4
   go_loopw [6, 38] (fun bv iv wr => ∃ (k n c : Nat) (A : Option Addr), k <= 4 /\ n <= 8 * k /\ Hid (n = (manyB (ns.take k)).length) /\ iv = .int .i64 k /\ bv = .slice A n c /\ Own wr w2.heap.size (.slice A n c) (manyB (ns.take k)) /\ Below w2.heap.size w2 wr) (fun _ iv _ => 4 - (intOf iv).toNat)
   case atStart => exact ⟨0, 0, 0, none, by decide, by decide, rfl, rfl, rfl, Own.nil _ _, Below.refl _ _⟩
   case round =>
    obtain ⟨k, n, c, A, hk, hn, HK, rfl, rfl, ho, hb⟩ := hrel
    by_cases h4 : k < 4
    . obtain ⟨q, hq⟩ : ∃ q, ns[k]'(by rw [H4.out]; exact h4) = q := ⟨_, rfl⟩
      have hcell : wr.cell? ⟨W1, k, none⟩ = some (.int .u32 (q : Nat)) := by
       rw [hb.cell (p := ⟨W1, k, none⟩) hW, HC.out k (by rw [H4.out]; exact h4), hq]
      have hq32 : q < 4294967296 := HN.out q (by rw [<- hq]; exact List.getElem_mem _)
      have htk : Hid (manyB (ns.take (k + 1)) = manyB (ns.take k) ++ both32 q) := by
       have : ns.take (k + 1) = ns.take k ++ [q] := by rw [<- hq]; exact List.take_succ_eq_append_getElem (by rw [H4.out]; exact h4)
       rw [this, manyB_snoc]; exact rfl
      have hlen : Hid ((manyB (ns.take k)).length + (both32 q).length <= 1000000000) := by rw [<- HK.out, both32_len]; exact Lib.hid (by omega)
      clear hq
      go_wp2_with (first
       | (at_builtin; refine asList rfl fun K hK => ?_; refine go_appB (w0 := w2) (w := w3) (.tmp 42) (.tmp 44) rfl w2.heap.size w3.heap.size _ _ (manyB (ns.take k)) (both32 q) rfl ho' rfl ho3.rd hlen.out hb3 (Nat.le_refl _) ?_; rintro A4 c4 w4 L4 hL4 hl4 hl4' ho4 hb4 hg4; clear hg4; have HL4 : Hid (L4 = manyB (ns.take (k + 1))) := by rw [htk.out]; exact hL4
          have hl5 : L4.length <= 8 * (k + 1) := by rw [<- HK.out, both32_len] at hl4; omega
          clear hl4 hl4'; refine hK _ _ ?_; clear hK K)
       | (go_at_call 58; go_must (refine (both32W q wr hq32).mono ?_); rintro e w3 ⟨A3, c3, rfl, ho3, hx3⟩; have ho' := ho.later hx3; have hb3 := hb.trans (hx3.mono hb.size)))
      go_roundw
      case rel => exact ⟨k + 1, L4.length, c4, A4, by omega, hl5, by rw [HL4.out]; exact rfl, by simp, rfl, by rw [<- HL4.out]; exact ho4, hb4⟩
      case measure => show 4 - ((k : Int) + 1).toNat < 4 - (k : Int).toNat; omega
    . have e : k = 4 := by omega
      subst e
      have et : ns.take 4 = ns := List.take_of_length_le (by rw [H4.out]; exact Nat.le_refl _)
      rw [et] at ho HK
      go_wp2_with (first
       | (go_at_call 51; refine (suspW_of 80 88 A c n (manyB ns) wr HK.out (by omega) ho.rd).mono ?_; rintro e w5 ⟨⟨v5, rfl, ho5⟩, hx5⟩; have hb5 := hb.trans (hx5.mono hb.size)))
      go_ret
      refine ⟨⟨_, rfl, ?_⟩, HB.out.trans (hb5.mono HB.out.size)⟩
      rw [HF.out]
      exact ho5.lower (Nat.le_trans HB.out.size hb.size)
 . have hm : bits .or .u32 (bits .and .u32 (x.f.perm : Int) 4095) 32768 = ((pxMode x.f : Nat) : Int) := HM.out 32768 (by unfold pxKind; rw [if_neg (by rw [‹x.f.dir = false›]; decide), if_pos (by have h := ‹(!x.f.target.toList.isEmpty) = false›; simpa using h)])
   rename_i hd ht K0 a0
   rw [hm]; clear hm hd ht
   obtain ⟨hb1, hW, hc1⟩ := px_row w x.cells.toArray (pxMode x.f) links x.f.uid x.f.gid (pxNums x.f links) rfl
   generalize (w.alloc (.cells x.cells.toArray 64)).alloc (.cells #[.int .u32 (pxMode x.f : Nat), .int .u32 links, .int .u32 x.f.uid, .int .u32 x.f.gid] 35) = w2 at hb1 hc1 hW ⊢
   obtain ⟨W1, hW1⟩ : ∃ W1, w.heap.size + 1 = W1 := ⟨_, rfl⟩
   rw [hW1] at hc1 hW ⊢
   have HB := Lib.hid hb1; have HC := Lib.hid hc1
   obtain ⟨ns, hns⟩ : ∃ ns, pxNums x.f links = ns := ⟨_, rfl⟩
   have h4 : ns.length = 4 := by rw [<- hns]; rfl
   have HF : Hid (pxB x.f links = suspB 80 88 (manyB ns)) := by unfold pxB; rw [hns]; exact rfl
   rw [hns] at HC HN
   have H4 := Lib.hid h4
   clear hb1 hc1 hW1 hns h4
   go_loopw [6, 38] (fun bv iv wr => ∃ (k n c : Nat) (A : Option Addr), k <= 4 /\ n <= 8 * k /\ Hid (n = (manyB (ns.take k)).length) /\ iv = .int .i64 k /\ bv = .slice A n c /\ Own wr w2.heap.size (.slice A n c) (manyB (ns.take k)) /\ Below w2.heap.size w2 wr) (fun _ iv _ => 4 - (intOf iv).toNat)
   case atStart => exact ⟨0, 0, 0, none, by decide, by decide, rfl, rfl, rfl, Own.nil _ _, Below.refl _ _⟩
   case round =>
    obtain ⟨k, n, c, A, hk, hn, HK, rfl, rfl, ho, hb⟩ := hrel
    by_cases h4 : k < 4
    . obtain ⟨q, hq⟩ : ∃ q, ns[k]'(by rw [H4.out]; exact h4) = q := ⟨_, rfl⟩
      have hcell : wr.cell? ⟨W1, k, none⟩ = some (.int .u32 (q : Nat)) := by
       rw [hb.cell (p := ⟨W1, k, none⟩) hW, HC.out k (by rw [H4.out]; exact h4), hq]
      have hq32 : q < 4294967296 := HN.out q (by rw [<- hq]; exact List.getElem_mem _)
      have htk : Hid (manyB (ns.take (k + 1)) = manyB (ns.take k) ++ both32 q) := by
       have : ns.take (k + 1) = ns.take k ++ [q] := by rw [<- hq]; exact List.take_succ_eq_append_getElem (by rw [H4.out]; exact h4)
       rw [this, manyB_snoc]; exact rfl
      have hlen : Hid ((manyB (ns.take k)).length + (both32 q).length <= 1000000000) := by rw [<- HK.out, both32_len]; exact Lib.hid (by omega)
      clear hq
      go_wp2_with (first
       | (at_builtin; refine asList rfl fun K hK => ?_; refine go_appB (w0 := w2) (w := w3) (.tmp 42) (.tmp 44) rfl w2.heap.size w3.heap.size _ _ (manyB (ns.take k)) (both32 q) rfl ho' rfl ho3.rd hlen.out hb3 (Nat.le_refl _) ?_; rintro A4 c4 w4 L4 hL4 hl4 hl4' ho4 hb4 hg4; clear hg4; have HL4 : Hid (L4 = manyB (ns.take (k + 1))) := by rw [htk.out]; exact hL4
          have hl5 : L4.length <= 8 * (k + 1) := by rw [<- HK.out, both32_len] at hl4; omega
          clear hl4 hl4'; refine hK _ _ ?_; clear hK K)
       | (go_at_call 58; go_must (refine (both32W q wr hq32).mono ?_); rintro e w3 ⟨A3, c3, rfl, ho3, hx3⟩; have ho' := ho.later hx3; have hb3 := hb.trans (hx3.mono hb.size)))
      go_roundw
      case rel => exact ⟨k + 1, L4.length, c4, A4, by omega, hl5, by rw [HL4.out]; exact rfl, by simp, rfl, by rw [<- HL4.out]; exact ho4, hb4⟩
      case measure => show 4 - ((k : Int) + 1).toNat < 4 - (k : Int).toNat; omega
    . have e : k = 4 := by omega
      subst e
      have et : ns.take 4 = ns := List.take_of_length_le (by rw [H4.out]; exact Nat.le_refl _)
      rw [et] at ho HK
      go_wp2_with (first
       | (go_at_call 51; refine (suspW_of 80 88 A c n (manyB ns) wr HK.out (by omega) ho.rd).mono ?_; rintro e w5 ⟨⟨v5, rfl, ho5⟩, hx5⟩; have hb5 := hb.trans (hx5.mono hb.size)))
      go_ret
      refine ⟨⟨_, rfl, ?_⟩, HB.out.trans (hb5.mono HB.out.size)⟩
      rw [HF.out]
      exact ho5.lower (Nat.le_trans HB.out.size hb.size)
end Go.Proofs.YtilgpaeeleknhaaGreatDoor
