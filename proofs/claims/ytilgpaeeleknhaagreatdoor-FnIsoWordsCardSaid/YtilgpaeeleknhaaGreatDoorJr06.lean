/- A part of the proof of laws.FnIsoRock (see the last text). -/
import Derived.Test.YtilgpaeeleknhaaGreatDoorJr05
import Derived.Deep.RegionLaw
import Derived.Deep.RegionHeld3
import Derived.Deep.DeepCutAuto
import Derived.Lib.AppendZerosOnto
set_option linter.unusedSimpArgs false
set_option linter.unusedVariables false
set_option maxRecDepth 1000000
set_option maxHeartbeats 8000000
namespace Go.Proofs.YtilgpaeeleknhaaGreatDoor
open Go Go.RowKit
def setDir (d : Bool) (l : List UInt8) : List UInt8 := if d then l.set 25 2 else l
theorem head_eq (x z : Nat) (t : Int) (d : Bool) (k : Nat) {L1 L2 L3 L4 L5 L6 L7 : List UInt8} (h1 : Hid (L1 = List.replicate 33 0)) (h2 : Hid (L2 = splice L1 2 (both32 x))) (h3 : Hid (L3 = splice L2 10 (both32 z))) (h4 : Hid (L4 = splice L3 18 (isoTimeB t)))
 (h5 : Hid (L5 = setDir d L4)) (h6 : Hid (L6 = splice L5 28 (both16 1))) (h7 : Hid (L7 = L6.set 32 (u8 k))) : L7 = recHead k x z t d := by
 have h1 := h1.out; have h2 := h2.out; have h3 := h3.out; have h4 := h4.out; have h5 := h5.out; have h6 := h6.out; have h7 := h7.out
 subst h1; subst h2; subst h3; subst h4; subst h5; subst h6; subst h7
 cases d <;> rfl
theorem padEven_yes {L : List UInt8} (h : ((L.length : Int) % 2 == 1) = true) : padEven L = L ++ [0] := by
 have h := eq_of_beq h
 unfold padEven; rw [if_pos (by omega)]
theorem padEven_no {L : List UInt8} (h : ((L.length : Int) % 2 == 1) = false) : padEven L = L := by
 have h := ne_of_beq_false h
 unfold padEven; rw [if_neg (by omega)]
theorem Own.setN {w : World} {B g cap : Nat} {l : List UInt8} (h : Own w B (.slice (some ⟨g, 0, none⟩) l.length cap) l) (j k : Nat) : Own (w.setCell ⟨g, j, none⟩ (.int .u8 ((k : Int) % 256))) B (.slice (some ⟨g, 0, none⟩) l.length cap) (l.set j (u8 k)) := by
 have := h.set j (u8 k)
 rw [BV_u8, List.length_set] at this
 exact this
theorem isoRecord_any (nm : ByteArray) (x z : Nat) (t : Int) (d : Bool) (sv : Value) (su : List UInt8) (w : World) (hid : nm.size <= 1000) (hx : x < 4294967296) (hz : z < 4294967296) (h0 : -9223372036854775808 <= t) (h1 : t <= 9223372036854775807)
 (hsu : su.length <= 1000) (hrd : Rd w w.heap.size sv su) :
 Calls Tryz.prog 56 #[.string nm, .int .u32 x, .int .u32 z, .int .i64 t, .bool d, sv] w fun o w' => (∃ v, o = .returned v /\ Own w' w.heap.size v (isoRec nm.data.toList x z t d su)) /\ Below w.heap.size w w' := by
 have HR := Lib.hid hrd
 obtain ⟨A, c, rfl, hA, hc⟩ := hrd
 clear hA hc
 go_enter Tryz.func56, Tryz.ntmps56
 go_wp2_with (at_make; go_must (refine asList rfl fun K hK => ?_); go_must (refine wp_makeB _ _ rfl w.heap.size _ _ _ _ 33 (33 + nm.size + (33 + nm.size) % 2 + su.length) rfl rfl (by rfl) (by simp) (by omega) (by omega) (by simp) ?_); go_must (intro w1 L1 hL1 hl1 hl1' ho1 hb1 hs1); go_must (refine hK _ _ ?_); go_must (clear hK K))
 go_region_held3 (fun _ => True) (trivial) (first
  | (go_at_call 58; go_must (refine (both32_any x _ hx).mono ?_); go_must (rintro e w' ⟨rfl, rfl⟩))
  | (refine asStep rfl ?_; refine wp_copyNew (w0 := w) (.tmp 28) (.tmp 30) rfl w.heap.size w.heap.size 2 _ _ _ _ L1 (both32 x) rfl ho1 (by simp [length_both32]) (by rw [length_both32]; omega) (by omega) rfl (by simp [length_both32]) hb1 hb1.size ?_; intro w2 L2 hL2 hl2 hl2' ho2 hb2))
 go_wp2_with fail
 go_region_held3 (fun _ => True) (trivial) (first
  | (go_at_call 58; go_must (refine (both32_any z _ hz).mono ?_); go_must (rintro e w' ⟨rfl, rfl⟩))
  | (refine asStep rfl ?_; refine wp_copyNew (w0 := w) (.tmp 33) (.tmp 35) rfl w.heap.size w.heap.size 10 _ _ _ _ L2 (both32 z) rfl ho2 (by simp [length_both32]) (by rw [length_both32]; omega) rfl rfl (by simp [length_both32]) hb2 hb2.size ?_; intro w3 L3 hL3 hl3 hl3' ho3 hb3))
 go_wp2_with fail
 go_region_held3 (fun _ => True) (trivial) (first
  | (go_at_call 74; go_must (refine (isoTime_any t _ h0 h1).mono ?_); go_must (rintro e w' ⟨rfl, rfl⟩))
  | (refine asStep rfl ?_; refine wp_copyNew (w0 := w) (.tmp 38) (.tmp 40) rfl w.heap.size w.heap.size 18 _ _ _ _ L3 (isoTimeB t) rfl ho3 (by simp [length_isoTimeB]) (by rw [length_isoTimeB]; omega) rfl rfl (by simp [length_isoTimeB]) hb3 hb3.size ?_; intro w4 L4 hL4 hl4 hl4' ho4 hb4))
 have hc25 := ho4.cell 25 (by omega)
 have hf25 := ho4.unfrozen 25
 have ho5 := ho4.set 25 2
 have hb5 := hb4.setCell (p := ⟨w.heap.size, 25, none⟩) (Nat.le_refl _) (BV 2)
 obtain ⟨w5, hw5⟩ : ∃ w5, w5 = if d then w4.setCell ⟨w.heap.size, 25, none⟩ (BV 2) else w4 := ⟨_, rfl⟩
 obtain ⟨L5, hL5⟩ : ∃ L5, L5 = setDir d L4 := ⟨_, rfl⟩
 have ho5' : Own w5 w.heap.size (.slice (some ⟨w.heap.size, 0, none⟩) L5.length (33 + nm.size + (33 + nm.size) % 2 + su.length)) L5 := by
  cases d <;> simp only [setDir, if_true, if_false, Bool.false_eq_true, ↓reduceIte] at hw5 hL5 <;> subst hw5 <;> subst hL5 <;> assumption
 have hb5' : Below w.heap.size w w5 := by
  cases d <;> simp only [if_true, if_false, Bool.false_eq_true, ↓reduceIte] at hw5 <;> subst hw5 <;> assumption
 have hl5 : L5.length <= 33 /\ 33 <= L5.length := by
  cases d <;> simp only [setDir, if_true, if_false, Bool.false_eq_true, ↓reduceIte] at hL5 <;> subst hL5 <;> (try rw [List.length_set]) <;> omega
 have HL5 := Lib.hid hL5
 have HC := Lib.hid hc25
 clear hL5 hc25 ho5 hb5
 have hb16 : ∀ w : World, Calls Tryz.prog 59 #[.int .u16 1] w fun e w' => e = .returned (.slice (some ⟨w.heap.size, 0, none⟩) 4 4) /\ w' = w.alloc (.cells (BVs (both16 1)).toArray 5) := fun w => both16_any 1 w (by omega)
 have HB := Lib.hid hb16
 clear hb16
 obtain ⟨l5a, l5b⟩ := hl5
 cases d
 case' false =>
  have ew : w5 = w4 := by simpa using hw5
  clear hw5
  subst ew
  go_wp2_with fail
 case' true =>
  have hc25 := HC.out
  have ew : w4.setCell ⟨w.heap.size, 25, none⟩ (.int .u8 2) = w5 := by simpa [BV] using hw5.symm
  clear hw5
  go_wp2_with fail
  clear ew hc25 hf25
 all_goals
  clear HC
  go_region_held3 (fun _ => True) (trivial) (first
   | (go_at_call 59; go_must (refine (HB.out _).mono ?_); go_must (rintro e w' ⟨rfl, rfl⟩))
   | (refine asStep rfl ?_; refine wp_copyNew (w0 := w) (.tmp 46) (.tmp 47) rfl w.heap.size w.heap.size 28 _ _ _ _ L5 (both16 1) rfl ho5' (by simp [length_both16]) (by rw [length_both16]; omega) rfl rfl (by simp [length_both16]) hb5' hb5'.size ?_; intro w6 L6 hL6 hl6 hl6' ho6 hb6))
  have hc32 := ho6.cell 32 (by omega)
  have hf32 := ho6.unfrozen 32
  have ho7 := ho6.set 32 (u8 nm.size)
  have hb7 := hb6.setCell (p := ⟨w.heap.size, 32, none⟩) (Nat.le_refl _) (BV (u8 nm.size))
  obtain ⟨w7, hw7⟩ : ∃ w7, w7 = w6.setCell ⟨w.heap.size, 32, none⟩ (BV (u8 nm.size)) := ⟨_, rfl⟩
  obtain ⟨L7, hL7⟩ : ∃ L7, L7 = L6.set 32 (u8 nm.size) := ⟨_, rfl⟩
  rw [<- hw7, <- hL7] at ho7
  rw [<- hw7] at hb7
  have hl7 : L7.length <= 33 := by rw [hL7, List.length_set]; omega
  have hl7' : 33 <= L7.length := by rw [hL7, List.length_set]; omega
  have HL7 := Lib.hid hL7
  clear hL7
  rw [BV_u8] at hw7
  have ew7 := hw7.symm
  clear hw7
  have e33 : L7.length = 33 := by omega
  rw [e33] at ho7
  clear e33
  go_wp2_with (first
   | (at_builtin; refine asList rfl fun K hK => ?_; refine go_appS (w0 := w) (.tmp 54) (.tmp 55) rfl w.heap.size _ L7 nm rfl ho7 rfl (by omega) hb7 (Nat.le_refl _) ?_; intro A8 c8 w8 L8 hL8 hl8 hl8' ho8 hb8 hg8; refine hK _ _ ?_; clear hK K hg8)
   | (at_builtin; refine asList rfl fun K hK => ?_; refine go_appOne (w0 := w) (.tmp 61) (.tmp 62) rfl w.heap.size _ _ _ L8 0 rfl ho8 rfl rfl (by rfl) (by omega) hb8 (Nat.le_refl _) ?_; intro A9 c9 w9 L9 hL9 hl9 hl9' ho9 hb9; refine hK _ _ ?_; clear hK K)
   | (at_builtin; refine asList rfl fun K hK => ?_; refine go_appB (w0 := w) (.tmp 64) (.tmp 65) rfl w.heap.size _ _ _ L9 su rfl ho9 rfl (HR.out.keep hb9 (Nat.le_refl _)) (by omega) hb9 (Nat.le_refl _) ?_; intro Aa ca wa La hLa hla hla' hoa hba hga; clear hga; obtain ⟨ga, rfl⟩ := hoa.addr (by omega); have hc0 := hoa.cell 0 (by omega); have hf0 := hoa.unfrozen 0; refine hK _ _ ?_; clear hK K)
   | (at_builtin; refine asList rfl fun K hK => ?_; refine go_appB (w0 := w) (.tmp 64) (.tmp 65) rfl w.heap.size _ _ _ L8 su rfl ho8 rfl (HR.out.keep hb8 (Nat.le_refl _)) (by omega) hb8 (Nat.le_refl _) ?_; intro Aa ca wa La hLa hla hla' hoa hba hga; clear hga; obtain ⟨ga, rfl⟩ := hoa.addr (by omega); have hc0 := hoa.cell 0 (by omega); have hf0 := hoa.unfrozen 0; refine hK _ _ ?_; clear hK K)
   | (at_builtin; refine asList rfl fun K hK => ?_; refine go_appOne (w0 := w) (.tmp 71) (.tmp 72) rfl w.heap.size _ _ _ La 0 rfl hoa rfl rfl (by rfl) (by omega) hba (Nat.le_refl _) ?_; intro Ab cb wb Lb hLb hlb hlb' hob hbb; clear hc0 hf0; obtain ⟨gb, rfl⟩ := hob.addr (by omega); have hc0 := hob.cell 0 (by omega); have hf0 := hob.unfrozen 0; refine hK _ _ ?_; clear hK K))
  all_goals go_ret
  all_goals refine ⟨⟨_, rfl, ?_⟩, ?_⟩
  all_goals first
   | exact hbb.setCell (p := ⟨gb, 0, none⟩) hob.base.1 _
   | exact hba.setCell (p := ⟨ga, 0, none⟩) hoa.base.1 _
   | skip
  all_goals
   have e7 := head_eq x z t _ nm.size hL1 hL2 hL3 hL4 HL5 hL6 HL7
   have e8 := hL8.out
   have ea := hLa.out
   have en : nm.data.toList.length = nm.size := by rw [Array.length_toList]; rfl
   unfold isoRec
   rw [en, <- e7, <- e8]
  all_goals first
   | (rw [padEven_yes ‹((L8.length : Int) % 2 == 1) = true›, <- hL9.out, <- ea, padEven_yes ‹((La.length : Int) % 2 == 1) = true›, <- hLb.out]; exact hob.setN 0 _)
   | (rw [padEven_yes ‹((L8.length : Int) % 2 == 1) = true›, <- hL9.out, <- ea, padEven_no ‹((La.length : Int) % 2 == 1) = false›]; exact hoa.setN 0 _)
   | (rw [padEven_no ‹((L8.length : Int) % 2 == 1) = false›, <- ea, padEven_yes ‹((La.length : Int) % 2 == 1) = true›, <- hLb.out]; exact hob.setN 0 _)
   | (rw [padEven_no ‹((L8.length : Int) % 2 == 1) = false›, <- ea, padEven_no ‹((La.length : Int) % 2 == 1) = false›]; exact hoa.setN 0 _)
theorem zeroCells_list (k : Nat) : (Builtin.zeroCells (Value.int .u8 0).cells k).toList = BVs (List.replicate k 0) := by
 have hc : (Value.int IntKind.u8 0).cells = #[.int .u8 0] := rfl
 apply List.ext_getElem?
 intro j
 simp only [Builtin.zeroCells, hc, BVs, List.map_replicate]
 simp [List.getElem?_replicate]
 by_cases h : j < k
 . simp [h]
   rw [Nat.mod_one]; rfl
 . simp [h]
theorem run_append_room_zeros {P : Program} (w : World) (t tn ty e : TypeId) (i : TypeInfo) (kq kn : IntKind) (ht : P.underlying t = some (.slice e)) (htn : P.underlying tn = some (.int kn)) (hi : P.info? e = some i) (hz : i.zero = some (.int .u8 0)) (hs1 : i.size = 1) (hb1 : i.bytes = 1)
 (g sLen sCap : Nat) (cur : Array Value) (hg : w.heap[g]? = some (.cells cur e (0, 0))) (k : Nat) (h0 : 0 < k) (hk : k <= 1000000000)
 (hroom : sLen + k <= sCap) (hfit : sLen + k <= cur.size) :
 (Builtin.append_ #[t, tn] ty #[.slice (some ⟨g, 0, none⟩) sLen sCap, .int kq k]).run P w =
   .ok (.slice (some ⟨g, 0, none⟩) (sLen + k) sCap) (w.setRow g (cur.toList.take sLen ++ BVs (List.replicate k 0) ++ cur.toList.drop (sLen + k)).toArray) := by
 have hzl : (BVs (List.replicate k (0 : UInt8))).length = k := by rw [length_BVs, List.length_replicate]
 have hst := run_storeCells_at P g sLen e (BVs (List.replicate k 0)) 0 cur w hg (by rw [hzl]; simpa using hfit) (BVs_one _)
 simp only [Nat.add_zero, hzl] at hst
 have hw : IntKind.i64.wrap (k : Int) = k := by rw [IntKind.wrap_i64]; omega
 have h48i : ¬ (281474976710656 < (k : Int) * (1 : Int)) := by omega
 have hneg : ¬ ((k : Int) < 0) := by omega
 have hns : ¬ (k = 0) := by omega
 have hzc := zeroCells_list k
 simp [Builtin.append_, run_underlying ht, run_underlying htn, sizeOf, typeInfo, zeroValue, hi, hz, hs1, hb1, asInt, asIntOf, hw, hneg, hns, hroom, hzc, Addr.add_lit, hst]
 intro h; omega
theorem run_append_own_zeros {P : Program} (w : World) (base : Nat) (t tn ty e : TypeId) (i : TypeInfo) (kq kn : IntKind) (ht : P.underlying t = some (.slice e)) (htn : P.underlying tn = some (.int kn)) (hi : P.info? e = some i) (hz : i.zero = some (.int .u8 0))
 (hsize : i.size = 1) (hby : i.bytes = 1)
 (v : Value) (n : Nat) (xs : List Value) (hown : w.ownsRow base e 1 v n xs) (k : Nat) (h0 : 0 < k)
 (hlen' : n + k <= 1000000000) (hbase : base <= w.heap.size) :
 ∃ v' w', (Builtin.append_ #[t, tn] ty #[v, .int kq k]).run P w = .ok v' w' /\ w'.ownsRow base e 1 v' (n + k) (xs ++ BVs (List.replicate k 0)) /\ w.grownBy w' v.ownBlock := by
 have h63 : n + k <= maxLen := by unfold maxLen; omega
 have hzl : (BVs (List.replicate k (0 : UInt8))).length = k := by rw [length_BVs, List.length_replicate]
 have hxl : xs.length = n := by simpa using hown.1
 have hlen : (xs ++ BVs (List.replicate k 0)).length = (n + k) * 1 := by rw [List.length_append, hxl, hzl, Nat.mul_one]
 have hzc := zeroCells_list k
 have grown : ∀ (old : Nat), old < n + k -> ∀ (row : Option Nat),
  (w.drew.alloc (.cells (xs.toArray ++ Builtin.zeroCells (Value.int .u8 0).cells k ++ Builtin.zeroCells (Value.int .u8 0).cells (grownCap w (n + k) old e - (n + k))) e)).ownsRow base e 1
    (.slice (some ⟨w.heap.size, 0, none⟩) (n + k) (grownCap w (n + k) old e)) (n + k) (xs ++ BVs (List.replicate k 0)) /\
  w.grownBy (w.drew.alloc (.cells (xs.toArray ++ Builtin.zeroCells (Value.int .u8 0).cells k ++ Builtin.zeroCells (Value.int .u8 0).cells (grownCap w (n + k) old e - (n + k))) e)) row := by
  intro old ho row
  have hge := grownCap_ge w (n + k) old e
  have hcm : grownCap w (n + k) old e <= maxLen := grownCap_le_maxLen w (n + k) old e h63
  refine ⟨⟨hlen, .inr ⟨w.heap.size, _, _, rfl, hbase, heap_alloc_new w.drew _, hge, hcm, ?_, ?_⟩⟩, ⟨rfl, rfl, rfl, by simp, fun b hb _ => heap_alloc_old w.drew _ hb⟩⟩
  . have hz1 : (Value.int IntKind.u8 0).cells.size = 1 := rfl
    simp only [Array.size_append, List.size_toArray, size_zeroCells, hz1, hxl]
    omega
  . simp only [Array.toList_append, List.append_assoc]
    rw [<- List.append_assoc, hzc, <- hlen]
    exact List.take_left
 rcases hown.2 with ⟨rfl, rfl⟩ | ⟨g, cap, cur, rfl, hbg, hg, hnc, hcm, hcs, htake⟩
 . have hx : xs = [] := List.eq_nil_of_length_eq_zero hxl
   subst hx
   have hr := Lib.run_append_nil_zeros (P := P) w t tn ty e i (.int .u8 0) kq kn ht htn hi hz k h0 (by omega) (by omega) (by rw [hby]; omega)
   have hgr := grown 0 (by omega) (Value.ownBlock (.slice none 0 0))
   simp only [Nat.zero_add, List.nil_append, Array.empty_append] at hgr ⊢
   exact ⟨_, _, hr, hgr.1, hgr.2⟩
 . by_cases hroom : n + k <= cap
   . have hcs' : cur.size = cap := by simpa using hcs
     have hr := run_append_room_zeros (P := P) w t tn ty e i kq kn ht htn hi hz hsize hby g n cap cur hg k h0 (by omega) hroom (by omega)
     refine ⟨_, _, hr, ⟨hlen, .inr ⟨g, cap, _, rfl, hbg, setRow_heap w g cur _ e _ hg, hroom, hcm, ?_, ?_⟩⟩, ⟨rfl, rfl, rfl, by simp, fun k _ hk => setRow_other w g k _ (fun e => hk (by simp [Value.ownBlock, e]))⟩⟩
     . simp only [List.size_toArray, List.length_append, List.length_take, List.length_drop, Array.length_toList, hzl]
       omega
     . have ht' : cur.toList.take n = xs := by simpa using htake
       rw [ht', <- hlen]
       exact List.take_left
   . have holds : ∀ j u, xs[j]? = some u -> w.cell? ((⟨g, 0, none⟩ : Addr).add j) = some u := hown.cells (g := g) rfl
     have hold := run_firstCells_some (P := P) w.drew i.size n ⟨g, 0, none⟩ n cap xs (by rw [hsize]; simpa using hxl) (by simpa using holds)
     have hr := Lib.run_append_grow_zeros (P := P) w t tn ty e i (.int .u8 0) kq kn ht htn hi hz (some ⟨g, 0, none⟩) n cap xs hold k h0 (by omega) (by omega) (by omega) (by rw [hby]; omega) (by rw [hby]; exact growslice_fits (by omega) (by omega))
     have hgr := grown cap (by omega) (Value.ownBlock (.slice (some ⟨g, 0, none⟩) n cap))
     exact ⟨_, _, hr, hgr.1, hgr.2⟩
theorem go_appZ_of {P : Program} {o : Oper} {a : Act} {w : World} {K : Act -> World -> Prop} {Q : Exit -> Act -> World -> Prop} (h27 : P.underlying 27 = some (.slice 5)) (h3 : P.underlying 3 = some (.int .i64)) (h5 : (P.info? 5).map (fun i => (i.zero, i.size, i.bytes)) = some (some (.int .u8 0), 1, 1)) (s x : Operand)
 (ho : o.op = .call { callee := .builtin .append, args := #[s, x], argTypes := #[27, 3] })
 (B n c k : Nat) (A : Option Addr) (l : List UInt8) (hn : n = l.length) (hs : a.eval s = .slice A n c) (hown : Own w B (.slice A n c) l) (Z : Int) (hx : a.eval x = .int .i64 Z) (hZ : Z = k) (h0 : 0 < k) (hlen : n + k <= 1000000000) (hB : B <= w.heap.size)
 (h : ∀ A' c' w', Own w' B (.slice A' (n + k) c') (l ++ List.replicate k 0) -> Below B w w' -> w.grownBy w' (Value.slice A n c).ownBlock -> K (a.put o.dst (.slice A' (n + k) c')) w') :
 Oper.wp P o a w K Q := by
 subst hn; subst hZ
 obtain ⟨i, hi, hz, hsz, hby⟩ := info_parts h5
 obtain ⟨v', w', hr, h2, h3'⟩ := run_append_own_zeros (P := P) w B 27 3 o.type 5 i .i64 .i64 h27 h3 hi hz hsz hby _ l.length (BVs l) hown k h0 hlen hB
 unfold Oper.wp execOp
 simp only [ho, resolve, invoke, builtin, Sem.run_bind, Sem.run_pure, Result.andThen_ok, List.map_toArray, List.map_cons, List.map_nil, hs, hx, hr]
 have hO : Own w' B v' (l ++ List.replicate k 0) := by
  unfold Own
  rw [List.length_append, BVs_append, List.length_replicate]
  exact h2
 obtain ⟨A', c', rfl, _, _⟩ := hO.shape
 have e : (l ++ List.replicate k (0 : UInt8)).length = l.length + k := by rw [List.length_append, List.length_replicate]
 rw [e] at hO ⊢
 exact h A' c' w' hO ((Below.refl B w).grown h3' hB (fun k hk => (World.ownsRow.lt hown k hk).1)) h3'
theorem under3 : Tryz.prog.underlying 3 = some (.int .i64) := Tryz.underlying3
abbrev go_appZ {o : Oper} {a : Act} {w : World} {K : Act -> World -> Prop} {Q : Exit -> Act -> World -> Prop} := @go_appZ_of Tryz.prog o a w K Q Tryz.underlying27 under3 info5
end Go.Proofs.YtilgpaeeleknhaaGreatDoor
