/- A part of the proof of laws.FnIsoRock (see the last text). -/
import Derived.Test.YtilgpaeeleknhaaGreatDoorJr27
import Derived.Test.YtilgpaeeleknhaaGreatDoorJr24
set_option linter.unusedSimpArgs false
set_option linter.unusedVariables false
set_option maxRecDepth 1000000
set_option maxHeartbeats 8000000
namespace Go.Proofs.YtilgpaeeleknhaaGreatDoor
open Go Go.RowKit
def nmStep (nm s : List UInt8) : List UInt8 := (if nm ≠ [] /\ nm ≠ [47] then nm ++ [47] else nm) ++ s
theorem ba_app (a b : ByteArray) : (a ++ b).data.toList = a.data.toList ++ b.data.toList := by
 rw [ByteArray.data_append, Array.toList_append]
theorem sl_app (V : Nat) (nm s : ByteArray) (w : World) (hV : w.heap[V]? = some (.cells #[.string nm] 9)) (h1 : nm.size <= 100000) (h2 : s.size <= 100000) :
 Calls Tryz.prog 257 #[.string s, .pointer (some ⟨V, 0, none⟩)] w fun e w' => e = .returned (.tuple #[]) /\ (∃ nm' : ByteArray, Hid (nm'.data.toList = nmStep nm.data.toList s.data.toList) /\ w'.heap[V]? = some (.cells #[.string nm'] 9)) /\ Below V w w' := by
 have c0 : w.cell? ⟨V, 0, none⟩ = some (.string nm) := ent_cell (cs := [.string nm]) hV 0 _ rfl
 have f0 : w.frozen? ⟨V, 0, none⟩ = false := ent_frozen (cs := [.string nm]) hV 0
 have z1 : ¬ 9223372036854775807 < nm.size + s.size := by omega
 have z2 : ¬ 9223372036854775807 < nm.size + 1 := by omega
 have z3 : ¬ 9223372036854775807 < (nm ++ (⟨#[47]⟩ : ByteArray)).size + s.size := by rw [ByteArray.size_append]; have : (⟨#[47]⟩ : ByteArray).size = 1 := rfl; omega
 have HV := Lib.hid hV
 clear hV h1 h2
 by_cases h1 : nm.data.toList = []
 . have b1 : nm.toList.isEmpty = true := by rw [Lib.toList_data, h1]; rfl
   have H1 := Lib.hid h1
   clear h1
   go_enter Tryz.func257, Tryz.ntmps257
   go_wp2
   refine bodyPost_end (v := .tuple #[]) (by simp [results, Tryz.f257]) rfl ⟨rfl, ⟨nm ++ s, ?_, ?_⟩, ?_⟩
   . unfold Hid nmStep; rw [ba_app, H1.out]; rfl
   . exact heap_setCell_same w V 0 _ 9 _ HV.out
   . exact (Below.refl V w).setCell (Nat.le_refl _) _
 . have b1 : nm.toList.isEmpty = false := by
    rw [Lib.toList_data]; cases h : nm.data.toList with
    | nil => exact absurd h h1
    | cons _ _ => rfl
   by_cases h2 : nm.data.toList = [47]
   . have b2 : (nm.toList == [47]) = true := by rw [Lib.toList_data]; simpa using h2
     have H1 := Lib.hid h1; have H2 := Lib.hid h2
     clear h1 h2
     go_enter Tryz.func257, Tryz.ntmps257
     go_wp2
     refine bodyPost_end (v := .tuple #[]) (by simp [results, Tryz.f257]) rfl ⟨rfl, ⟨nm ++ s, ?_, ?_⟩, ?_⟩
     . unfold Hid nmStep; rw [ba_app, H2.out]; rfl
     . exact heap_setCell_same w V 0 _ 9 _ HV.out
     . exact (Below.refl V w).setCell (Nat.le_refl _) _
   . have b2 : (nm.toList == [47]) = false := by rw [Lib.toList_data]; simpa using h2
     have H1 := Lib.hid h1; have H2 := Lib.hid h2
     clear h1 h2
     go_enter Tryz.func257, Tryz.ntmps257
     go_wp2
     refine bodyPost_end (v := .tuple #[]) (by simp [results, Tryz.f257]) rfl ⟨rfl, ⟨nm ++ (⟨#[47]⟩ : ByteArray) ++ s, ?_, ?_⟩, ?_⟩
     . unfold Hid nmStep; rw [ba_app, ba_app, if_pos ⟨H1.out, H2.out⟩]
     . have := heap_setCell_same w V 0 _ 9 (.string (nm ++ (⟨#[47]⟩ : ByteArray))) HV.out
       exact heap_setCell_same _ V 0 _ 9 _ this
     . exact ((Below.refl V w).setCell (Nat.le_refl _) _).setCell (Nat.le_refl _) _
theorem RdO.castn {w : World} {ok : Nat -> Prop} {A : Option Addr} {n n' c c' : Nat} {l : List UInt8} (h : RdO w ok (.slice A n c) l) (e : n = n') (e2 : c = c') : RdO w ok (.slice A n' c') l := by subst e; subst e2; exact h
abbrev Comp := Option (List UInt8)
def partB (s : List UInt8) : List UInt8 := if s = [46] then [2, 0] else if s = [46, 46] then [4, 0] else 0 :: u8 s.length :: s
def compB : Comp -> List UInt8
 | none => [8, 0]
 | some s => partB s
def compStep (nm : List UInt8) : Comp -> List UInt8
 | none => [47]
 | some s => nmStep nm s
def compsB (cs : List Comp) : List UInt8 := cs.flatMap compB
def compsN (cs : List Comp) : List UInt8 := cs.foldl compStep []
def slV (cs : List Comp) : Value := .iface 362 (.agg #[.bool false, .string (ofL (compsN cs))])
theorem compsB_snoc (cs : List Comp) (c : Comp) : compsB (cs ++ [c]) = compsB cs ++ compB c := by simp [compsB]
theorem compsN_snoc (cs : List Comp) (c : Comp) : compsN (cs ++ [c]) = compStep (compsN cs) c := by simp [compsN]
theorem nmStep_len (nm s : List UInt8) : (nmStep nm s).length <= nm.length + 1 + s.length := by
 unfold nmStep; split <;> simp <;> omega
theorem partB_len (s : List UInt8) : 2 <= (partB s).length /\ s.length <= (partB s).length := by
 unfold partB
 split
 . next e => subst e; decide
 . split
   . next e => subst e; decide
   . simp; omega
theorem compB_len2 (c : Comp) : 2 <= (compB c).length := by
 cases c with
 | none => decide
 | some s => exact (partB_len s).1
theorem compStep_len (nm : List UInt8) (c : Comp) : (compStep nm c).length <= nm.length + 1 + (compB c).length := by
 cases c with
 | none => show 1 <= nm.length + 1 + 2; omega
 | some s =>
   have h := nmStep_len nm s
   have h2 := (partB_len s).2
   show (nmStep nm s).length <= nm.length + 1 + (partB s).length
   omega
theorem compsN_len (cs : List Comp) : (compsN cs).length <= cs.length + (compsB cs).length := by
 suffices ∀ n, n <= cs.length -> (compsN (cs.take n)).length <= n + (compsB (cs.take n)).length by
  have h := this cs.length (Nat.le_refl _); rwa [List.take_length] at h
 intro n
 induction n with
 | zero => intro _; simp [compsN, compsB]
 | succ n ih =>
   intro hn
   have h1 := ih (by omega)
   rw [<- List.take_append_getElem (by omega : n < cs.length), compsB_snoc, compsN_snoc, List.length_append]
   have h2 := compStep_len (compsN (cs.take n)) cs[n]
   omega
theorem comps_len (cs : List Comp) : 2 * cs.length <= (compsB cs).length := by
 induction cs with
 | nil => simp [compsB]
 | cons c cs ih =>
   have := compB_len2 c
   simp only [compsB, List.flatMap_cons, List.length_append, List.length_cons] at ih ⊢; omega
theorem comps_at (cs : List Comp) (k : Nat) (c : Comp) (h : cs[k]? = some c) (pre : List UInt8) : ∀ j, j < (compB c).length -> (pre ++ compsB cs)[pre.length + (compsB (cs.take k)).length + j]? = (compB c)[j]? := by
 intro j hj
 have hk := (List.getElem?_eq_some_iff.1 h).1
 have e : compsB cs = compsB (cs.take k) ++ (compB c ++ compsB (cs.drop (k + 1))) := by
  have e1 : cs = cs.take k ++ c :: cs.drop (k + 1) := by
   rw [<- (List.getElem?_eq_some_iff.1 h).2, <- List.drop_eq_getElem_cons hk, List.take_append_drop]
  conv => lhs; rw [e1]
  simp [compsB]
 rw [Nat.add_assoc, List.getElem?_append_right (by omega), e, Nat.add_sub_cancel_left, List.getElem?_append_right (by omega), Nat.add_sub_cancel_left, List.getElem?_append_left hj]
def slE (cs : List Comp) : List UInt8 := suspB 83 76 (0 :: compsB cs)
def CompOk (c : Comp) : Prop := ∀ s, c = some s -> 1 <= s.length /\ s.length <= 100
theorem sl_any (R : Value) (D o n c : Nat) (cs : List Comp) (w : World) (hs : SrcO w D o (slE cs)) (hn : 5 + (compsB cs).length = n) (hok : ∀ x ∈ cs, CompOk x) (h2 : n <= 250) (hc : n <= c) :
 Calls Tryz.prog 249 #[R, .slice (some ⟨D, o, none⟩) n c] w fun e w' => e = .returned (.tuple #[slV cs, .nilIface]) /\ Below w.heap.size w w' := by
 have hlen := comps_len cs
 have hb : u8 (4 + (0 :: compsB cs : List UInt8).length) = u8 n := by simp only [List.length_cons]; congr 1; omega
 have c2 : w.cell? ⟨D, o + 2, none⟩ = some (.int .u8 n) := by
  rw [hs.2 2 (u8 (4 + (0 :: compsB cs : List UInt8).length)) rfl, hb, bv_u8 n (by omega)]
 have c3 : w.cell? ⟨D, o + 3, none⟩ = some (.int .u8 1) := hs.2 3 _ rfl
 have c4 : w.cell? ⟨D, o + 4, none⟩ = some (.int .u8 0) := hs.2 4 _ rfl
 have hV0 := heap_alloc_new w (.cells #[.string ⟨#[]⟩] 9)
 have hB0 : Below w.heap.size w (w.alloc (.cells #[.string ⟨#[]⟩] 9)) := (Below.refl _ _).alloc (Nat.le_refl _) _
 have hnl := compsN_len
 have HS := Lib.hid hs; have HV0 := Lib.hid hV0; have HB0 := Lib.hid hB0; have HN := Lib.hid hn; have HOK := Lib.hid hok; have HNL := Lib.hid hnl
 clear hs hb hV0 hB0 hn hok hnl
 have z2 : (5 : Int) <= (n : Int) := by have := HN.out; omega
 have z3 : (n : Int) <= (c : Int) := by omega
 have hDl := HS.out.1
 go_enter Tryz.func249, Tryz.ntmps249
 go_upto_region 11 with (fail)
 clear c2 c3 c4
 obtain ⟨V, hV⟩ : ∃ V, w.heap.size = V := ⟨_, rfl⟩
 rw [hV] at HV0 hDl HB0 ⊢
 generalize w.alloc (.cells #[.string ⟨#[]⟩] 9) = w0 at HV0 HB0 ⊢
 go_loopw [11, 12, 13, 14, 48, 52, 58, 64] (fun iv _ _ _ _ _ _ _ wr => ∃ (k i : Nat) (nm : ByteArray), k <= cs.length /\ i <= n /\ iv = .int .i64 i /\ Hid (i = 5 + (compsB (cs.take k)).length) /\ Hid (nm.data.toList = compsN (cs.take k)) /\ Hid (wr.heap[V]? = some (.cells #[.string nm] 9)) /\ Below V w wr) (fun iv _ _ _ _ _ _ _ _ => n - (intOf iv).toNat)
 case atStart => exact ⟨0, 5, ⟨#[]⟩, Nat.zero_le _, by omega, rfl, rfl, rfl, HV0, HB0.out⟩
 case round =>
  obtain ⟨k, i, nm, hk, hi, rfl, HI, HNM, HV, hb⟩ := hrel
  by_cases hlt : k < cs.length
  . obtain ⟨x, hx⟩ : ∃ x, cs[k]? = some x := ⟨_, List.getElem?_eq_getElem hlt⟩
    have htk : cs.take (k + 1) = cs.take k ++ [x] := by
     rw [<- List.take_append_getElem hlt]; congr 2
     rw [List.getElem?_eq_getElem hlt] at hx; simpa using hx
    have hat := comps_at cs k x hx [83, 76, u8 (4 + (0 :: compsB cs : List UInt8).length), 1, 0]
    have hat2 : ∀ W, Below V w W -> ∀ (j : Nat) (b : UInt8), (compB x)[j]? = some b -> W.cell? ⟨D, o + i + j, none⟩ = some (BV b) := by
     intro W hW j b hj
     rw [hW.cell (p := ⟨D, o + i + j, none⟩) hDl, Nat.add_assoc]
     refine HS.out.2 (i + j) b ?_
     have := hat j (List.getElem?_eq_some_iff.1 hj).1
     rw [hj] at this
     rw [HI.out]; exact this
    have hix : i + (compB x).length <= n := by
     have h1 : (compsB (cs.take (k + 1))).length <= (compsB cs).length := by
      have e : compsB cs = compsB (cs.take (k + 1)) ++ compsB (cs.drop (k + 1)) := by
       conv => lhs; rw [<- List.take_append_drop (k + 1) cs]
       simp only [compsB, List.flatMap_append]
      rw [e, List.length_append]; exact Nat.le_add_right _ _
     rw [htk, compsB_snoc, List.length_append] at h1
     have := HI.out; have := HN.out; omega
    have hx2 := compB_len2 x
    have hnm : nm.size <= 1000 := by
     have h1 := compsN_len (cs.take k)
     have h2 := comps_len (cs.take k)
     have h3 : nm.data.toList.length = nm.size := by rw [Array.length_toList]; rfl
     rw [HNM.out] at h3
     have h4 : (compsB (cs.take k)).length <= n := by have := HI.out; omega
     omega
    have hokx := HOK.out x (List.mem_of_getElem? hx)
    have HTK := Lib.hid htk; have HAT := Lib.hid hat2; have HOX := Lib.hid hokx
    clear htk hx hat hat2 hokx
    have zi : (i : Int) <= (n : Int) := by omega
    have zc : ¬ c = i := by omega
    have hVw : wr.cell? ⟨V, 0, none⟩ = some (.string nm) := ent_cell (cs := [.string nm]) HV.out 0 _ rfl
    have hVf : wr.frozen? ⟨V, 0, none⟩ = false := ent_frozen (cs := [.string nm]) HV.out 0
    have fin : ∀ (W : World) (nm' : ByteArray), nm'.data.toList = compStep nm.data.toList x -> W.heap[V]? = some (.cells #[.string nm'] 9) -> Below V w W -> ∃ (k' i' : Nat) (nm'' : ByteArray), k' <= cs.length /\ i' <= n /\ i + (compB x).length = i' /\ Hid (i' = 5 + (compsB (cs.take k')).length) /\ Hid (nm''.data.toList = compsN (cs.take k')) /\ Hid (W.heap[V]? = some (.cells #[.string nm''] 9)) /\ Below V w W := fun W nm' h1 h2 h3 =>
     ⟨k + 1, i + (compB x).length, nm', hlt, hix, rfl, by unfold Hid; rw [HTK.out, compsB_snoc, List.length_append, <- Nat.add_assoc, <- HI.out], by unfold Hid; rw [HTK.out, compsN_snoc, <- HNM.out]; exact h1, h2, h3⟩
    have FIN := Lib.hid fin
    clear fin
    cases x with
    | none =>
      have c0 : wr.cell? ⟨D, o + i, none⟩ = some (.int .u8 8) := HAT.out _ hb 0 _ rfl
      have c1 : wr.cell? ⟨D, o + i + 1, none⟩ = some (.int .u8 0) := HAT.out _ hb 1 _ rfl
      have bt : bits .and .u8 8 8 = 8 := by decide
      go_wp2
      go_roundw
      case rel =>
       obtain ⟨k', i', nm', q1, q2, q3, q4, q5, q6, q7⟩ := FIN.out (wr.setCell ⟨V, 0, none⟩ (.string ⟨#[47]⟩)) ⟨#[47]⟩ rfl (heap_setCell_same wr V 0 _ 9 _ HV.out) (hb.setCell (Nat.le_refl _) _)
       exact ⟨k', i', nm', q1, q2, by rw [<- q3]; rfl, q4, q5, q6, q7⟩
      case measure => simp [intOf]; omega
    | some s =>
      obtain ⟨hs1, hs2⟩ := HOX.out s rfl
      by_cases h46 : s = [46]
      . subst h46
        have c0 : wr.cell? ⟨D, o + i, none⟩ = some (.int .u8 2) := HAT.out _ hb 0 _ rfl
        have c1 : wr.cell? ⟨D, o + i + 1, none⟩ = some (.int .u8 0) := HAT.out _ hb 1 _ rfl
        have bt1 : bits .and .u8 2 8 = 0 := by decide
        have bt2 : bits .and .u8 2 4 = 0 := by decide
        have bt3 : bits .and .u8 2 2 = 2 := by decide
        go_wp2_with (first
         | (go_at_call 257; go_must (refine (sl_app V nm ⟨#[46]⟩ _ HV.out (by omega) (by decide)).mono ?_); rintro e w2 ⟨rfl, ⟨nm2, hn2, hV2⟩, hb2⟩))
        go_roundw
        case rel =>
         obtain ⟨k', i', nm', q1, q2, q3, q4, q5, q6, q7⟩ := FIN.out w2 nm2 hn2.out hV2 (hb.trans hb2)
         exact ⟨k', i', nm', q1, q2, by rw [<- q3]; rfl, q4, q5, q6, q7⟩
        case measure => simp [intOf]; omega
      . by_cases h462 : s = [46, 46]
        . subst h462
          have c0 : wr.cell? ⟨D, o + i, none⟩ = some (.int .u8 4) := HAT.out _ hb 0 _ rfl
          have c1 : wr.cell? ⟨D, o + i + 1, none⟩ = some (.int .u8 0) := HAT.out _ hb 1 _ rfl
          have bt1 : bits .and .u8 4 8 = 0 := by decide
          have bt2 : bits .and .u8 4 4 = 4 := by decide
          go_wp2_with (first
           | (go_at_call 257; go_must (refine (sl_app V nm ⟨#[46, 46]⟩ _ HV.out (by omega) (by decide)).mono ?_); rintro e w2 ⟨rfl, ⟨nm2, hn2, hV2⟩, hb2⟩))
          go_roundw
          case rel =>
           obtain ⟨k', i', nm', q1, q2, q3, q4, q5, q6, q7⟩ := FIN.out w2 nm2 hn2.out hV2 (hb.trans hb2)
           exact ⟨k', i', nm', q1, q2, by rw [<- q3]; rfl, q4, q5, q6, q7⟩
          case measure => simp [intOf]; omega
        . have hpb : compB (some s) = 0 :: u8 s.length :: s := by show partB s = _; unfold partB; rw [if_neg h46, if_neg h462]
          have hpl : (compB (some s)).length = 2 + s.length := by rw [hpb]; simp; omega
          rw [hpb] at HAT
          have c0 : wr.cell? ⟨D, o + i, none⟩ = some (.int .u8 0) := HAT.out _ hb 0 _ rfl
          have c1 : wr.cell? ⟨D, o + i + 1, none⟩ = some (.int .u8 s.length) := by
           rw [HAT.out _ hb 1 _ rfl, bv_u8 _ (by omega)]
          obtain ⟨m, hm⟩ : ∃ m, s.length = m := ⟨_, rfl⟩
          rw [hm] at hs1 hs2 c1 hpl
          have r1 : RdO wr (fun _ => True) (.slice (some ⟨D, o + i + 2, none⟩) m (c - i - 2)) s := by
           refine ⟨_, _, by rw [hm], fun ad _ => trivial, fun j u hu => ⟨_, rfl, ?_⟩⟩
           have hj : j < s.length := by have := (List.getElem?_eq_some_iff.1 hu).1; rwa [length_BVs] at this
           rw [BVs_get _ _ hj] at hu
           cases hu
           rw [Addr.add_mid, Nat.add_assoc]
           refine HAT.out _ hb (2 + j) _ ?_
           rw [Nat.add_comm]
           show s[j]? = _
           rw [List.getElem?_eq_getElem hj]
          have R1 := Lib.hid r1
          have HM := Lib.hid hm
          have bt1 : bits .and .u8 0 8 = 0 := by decide
          have bt2 : bits .and .u8 0 4 = 0 := by decide
          have bt3 : bits .and .u8 0 2 = 0 := by decide
          have zz1 : (2 : Int) + (m : Int) <= (c : Int) - (i : Int) := by omega
          have zz2 : ¬ c - i = 2 := by omega
          have HPL := Lib.hid hpl
          clear r1 hm hpb h46 h462
          go_wp2_with (first
           | (go_at_call 257; go_must (refine (sl_app V nm (ofL s) _ HV.out (by omega) (by rw [size_ofL, HM.out]; omega)).mono ?_); rintro e w2 ⟨rfl, ⟨nm2, hn2, hV2⟩, hb2⟩)
           | (refine atConvert 27 9 ?_; refine asList rfl fun KK hKK => ?_; go_must (refine wp_toStr (.tmp 71) rfl (fun _ => True) _ s rfl (RdO.castn R1.out (by omega) (by omega)) ?_); refine hKK _ _ ?_; clear hKK KK))
          go_roundw
          case rel =>
           obtain ⟨k', i', nm', q1, q2, q3, q4, q5, q6, q7⟩ := FIN.out w2 nm2 hn2.out hV2 (hb.trans hb2)
           exact ⟨k', i', nm', q1, q2, by rw [<- q3, HPL.out]; first | done | rfl, q4, q5, q6, q7⟩
          case measure => simp [intOf]; omega
  . have hke : k = cs.length := by omega
    subst hke
    have hI := HI.out
    have hN := HNM.out
    rw [List.take_length] at hI hN
    have hie : i = n := by have := HN.out; omega
    subst hie
    have hVw : wr.cell? ⟨V, 0, none⟩ = some (.string nm) := ent_cell (cs := [.string nm]) HV.out 0 _ rfl
    have hne : nm = ofL (compsN cs) := ba_ext (by rw [hN])
    have HNE := Lib.hid hne
    have HVV := Lib.hid hV
    clear hI hN hne hV
    go_wp2
    go_ret2
    refine ⟨?_, by rw [HVV.out]; exact hb⟩
    unfold slV; rw [<- HNE.out]; rfl
def mtElem (v : Value) : Option (DataW Unit × List MemPlace) := match v with | .nilIface => some (.lit (.bool false), []) | _ => none
theorem under312 : Tryz.prog.underlying 312 = some (.map 9 247) := by kernel_rfl
theorem zero247 (w : World) : (zeroValue 247).run Tryz.prog w = .ok .nilIface w := by kernel_rfl
theorem mt_own {w : World} {b : Nat} (h : w.heap[b]? = some (.map #[] 0)) : w.ownsMap Tryz.prog 9 mtElem b 0 (.map []) := by
 have := World.ownsMap_made w Tryz.prog 9 mtElem
 obtain ⟨es, clock, h1, h2⟩ := this
 refine ⟨#[], 0, h, ?_⟩
 have h3 := (MapKept.heap_alloc w (.map #[] 0)).1
 rw [h3] at h1
 injection h1 with h1
 injection h1 with e1 e2
 subst e1; subst e2
 exact h2
theorem lookMt {ops : Array Oper} {rest : List Oper} {o : Oper} {a : Act} {w : World} {Q : Exit -> Act -> World -> Prop} (hg : o.guard = none) (m x : Operand) (hop : o.op = Op.lookup 312 m x true) (b : Nat) (hm : a.eval m = .map (some b)) (hown : w.heap[b]? = some (.map #[] 0)) (s : ByteArray) (hx : a.eval x = .string s) (hs : s.size <= maxLen)
 (hK : wpList Tryz.prog ops Q rest (a.put o.dst (.tuple #[.nilIface, .bool false])) w) : wpList Tryz.prog ops Q (o :: rest) a w :=
 wpList_lookup_own_ok w hg m x 312 hop 9 247 keyS under312 mtElem (zero247 w) (.lit (.bool false)) [] rfl b 0 (.map []) hm (mt_own hown) (.string s) (.string s.data.toList) hx (WideMaps.keyOf_string_mk Tryz.underlying9 hs) (fun v ps hv => by
  have e : v = .nilIface := by
   unfold mtElem at hv
   split at hv
   . rfl
   . cases hv
  subst e
  exact hK)
theorem atLookupMt {m x : Operand} {c : Bool} {P : Program} {ops : Array Oper} {rest : List Oper} {Q : Exit -> Act -> World -> Prop} {a : Act} {w : World} {d : Option Tmp} {ty : TypeId} {pos : String} {aft : Array Edge} {g : Option (Nat × Bool)} (h : wpList P ops Q ({ dst := d, op := .lookup 312 m x c, type := ty, pos := pos, after := aft, guard := g } :: rest) a w) :
 wpList P ops Q ({ dst := d, op := .lookup 312 m x c, type := ty, pos := pos, after := aft, guard := g } :: rest) a w := h
theorem parser_sp (w : World) : Calls Tryz.prog 144 #[.string ⟨#[83, 80]⟩] w fun e w' => e = .returned (.tuple #[.func (.func 154) #[] #[], .bool true]) /\ w' = w := by
 go_enter Tryz.func144, Tryz.ntmps144
 go_wp2
 go_ret2
 exact ⟨rfl, rfl⟩
theorem parser_er (w : World) : Calls Tryz.prog 144 #[.string ⟨#[69, 82]⟩] w fun e w' => e = .returned (.tuple #[.func (.func 157) #[] #[], .bool true]) /\ w' = w := by
 go_enter Tryz.func144, Tryz.ntmps144
 go_wp2
 go_ret2
 exact ⟨rfl, rfl⟩
theorem parser_ce (w : World) : Calls Tryz.prog 144 #[.string ⟨#[67, 69]⟩] w fun e w' => e = .returned (.tuple #[.func (.func 159) #[] #[], .bool true]) /\ w' = w := by
 go_enter Tryz.func144, Tryz.ntmps144
 go_wp2
 go_ret2
 exact ⟨rfl, rfl⟩
def noTag (a b : UInt8) : Prop := (a = 80 /\ b = 88) \/ (a = 84 /\ b = 70) \/ (a = 78 /\ b = 77) \/ (a = 83 /\ b = 76)
theorem parser_no (a b : UInt8) (h : noTag a b) (w : World) : Calls Tryz.prog 144 #[.string ⟨#[a, b]⟩] w fun e w' => e = .returned (.tuple #[.nilFunc, .bool false]) /\ w' = w := by
 rcases h with ⟨rfl, rfl⟩ | ⟨rfl, rfl⟩ | ⟨rfl, rfl⟩ | ⟨rfl, rfl⟩
 all_goals
  go_enter Tryz.func144, Tryz.ntmps144
  go_wp2
  go_ret2
  exact ⟨rfl, rfl⟩
def PostV (Q : Value -> Prop) (w : World) (e : Ending) (w' : World) : Prop := (∃ v, e = .returned (.tuple #[v, .nilIface]) /\ Q v) /\ Below w.heap.size w w'
theorem process_px (Q : Value -> Prop) (R A : Value) (w : World) (h : Calls Tryz.prog 247 #[R, A] w fun e w' => PostV Q w e w') : Calls Tryz.prog 243 #[R, .string ⟨#[80, 88]⟩, A] w fun e w' => PostV Q w e w' := by
 have H := Lib.hid h
 clear h
 go_enter Tryz.func243, Tryz.ntmps243
 go_wp2_with (first | (go_at_call 247; go_must (refine H.out.mono ?_); rintro e w2 ⟨⟨v, rfl, hv⟩, hb⟩))
 go_ret2
 exact ⟨⟨v, rfl, hv⟩, hb⟩
theorem process_sl (Q : Value -> Prop) (R A : Value) (w : World) (h : Calls Tryz.prog 249 #[R, A] w fun e w' => PostV Q w e w') : Calls Tryz.prog 243 #[R, .string ⟨#[83, 76]⟩, A] w fun e w' => PostV Q w e w' := by
 have H := Lib.hid h
 clear h
 go_enter Tryz.func243, Tryz.ntmps243
 go_wp2_with (first | (go_at_call 249; go_must (refine H.out.mono ?_); rintro e w2 ⟨⟨v, rfl, hv⟩, hb⟩))
 go_ret2
 exact ⟨⟨v, rfl, hv⟩, hb⟩
theorem process_nm (Q : Value -> Prop) (R A : Value) (w : World) (h : Calls Tryz.prog 250 #[R, A] w fun e w' => PostV Q w e w') : Calls Tryz.prog 243 #[R, .string ⟨#[78, 77]⟩, A] w fun e w' => PostV Q w e w' := by
 have H := Lib.hid h
 clear h
 go_enter Tryz.func243, Tryz.ntmps243
 go_wp2_with (first | (go_at_call 250; go_must (refine H.out.mono ?_); rintro e w2 ⟨⟨v, rfl, hv⟩, hb⟩))
 go_ret2
 exact ⟨⟨v, rfl, hv⟩, hb⟩
theorem process_tf (Q : Value -> Prop) (R A : Value) (w : World) (h : Calls Tryz.prog 254 #[R, A] w fun e w' => PostV Q w e w') : Calls Tryz.prog 243 #[R, .string ⟨#[84, 70]⟩, A] w fun e w' => PostV Q w e w' := by
 have H := Lib.hid h
 clear h
 go_enter Tryz.func243, Tryz.ntmps243
 go_wp2_with (first | (go_at_call 254; go_must (refine H.out.mono ?_); rintro e w2 ⟨⟨v, rfl, hv⟩, hb⟩))
 go_ret2
 exact ⟨⟨v, rfl, hv⟩, hb⟩
theorem method_Process (a : Addr) (w : World) : (method 510 255 (.pointer (some a)) "Process").run Tryz.prog w = .ok (243, .pointer (some a)) w := by kernel_rfl
inductive Item
 | sp | er | ce (x y z : Nat) | px (f : File) (l : Nat) | tf (t : Int) | nm (s : List UInt8) | sl (cs : List Comp)
def Item.ta : Item -> UInt8
 | .sp => 83 | .er => 69 | .ce _ _ _ => 67 | .px _ _ => 80 | .tf _ => 84 | .nm _ => 78 | .sl _ => 83
def Item.tb : Item -> UInt8
 | .sp => 80 | .er => 82 | .ce _ _ _ => 69 | .px _ _ => 88 | .tf _ => 70 | .nm _ => 77 | .sl _ => 76
def Item.body : Item -> List UInt8
 | .sp => [190, 239, 0]
 | .er => [10, 84, 55, 1] ++ erId ++ erText ++ erSrc
 | .ce x y z => both32 x ++ both32 y ++ both32 z
 | .px f l => manyB (pxNums f l)
 | .tf t => tfBody t 3
 | .nm s => 0 :: s
 | .sl cs => 0 :: compsB cs
def Item.bytes (it : Item) : List UInt8 := suspB it.ta it.tb it.body
def Item.Ok : Item -> Prop
 | .ce x y z => x < 4294967296 /\ y < 4294967296 /\ z < 4294967296
 | .px f l => l < 4294967296 /\ f.uid < 4294967296 /\ f.gid < 4294967296 /\ f.perm < 512
 | .nm s => 1 <= s.length /\ s.length <= 200
 | .sl cs => (∀ x ∈ cs, CompOk x) /\ 5 + (compsB cs).length <= 250
 | _ => True
theorem Item.len (it : Item) : it.bytes.length = 4 + it.body.length := suspB_len _ _ _
theorem Item.bd (it : Item) (h : it.Ok) : 5 <= it.bytes.length /\ it.bytes.length <= 250 := by
 rw [it.len]
 cases it with
 | sp => decide
 | er => decide
 | ce x y z => simp [Item.body, both32_len]
 | px f l => show 5 <= 4 + (manyB (pxNums f l)).length /\ 4 + (manyB (pxNums f l)).length <= 250; rw [manyB_len]; simp [pxNums]
 | tf t => show 5 <= 4 + (tfBody t 3).length /\ 4 + (tfBody t 3).length <= 250; rw [tfBody_len]; decide
 | nm s => have := h.1; have := h.2; simp [Item.body]; omega
 | sl cs => have := h.2; simp [Item.body]; omega
def ItemV (h : Bool) : Item -> Value -> Prop
 | .sp, v => v = .iface 249 (.agg #[.int .u8 0])
 | .er, v => v = .iface 253 (.agg #[.string (ofL erId), .string (ofL erText), .string (ofL erSrc), .int .u8 1])
 | .ce x y z, v => v = .iface 279 (.agg #[.int .u32 x, .int .u32 y, .int .u32 z])
 | .px f l, v => if h then v = pxV (goMode f) l f.uid f.gid else ∃ cs, v = .iface 331 (.agg cs)
 | .tf t, v => if h then ∃ cs, v = .iface 369 (.agg cs) else ∃ cs, v = .iface 331 (.agg cs)
 | .nm s, v => if h then v = nmV s else ∃ cs, v = .iface 331 (.agg cs)
 | .sl cs, v => if h then v = slV cs else ∃ cs, v = .iface 331 (.agg cs)
def HandV (w : World) (hv : Value) (h : Bool) : Prop := if h then ∃ g c R, hv = .slice (some ⟨g, 0, none⟩) 1 c /\ g < w.heap.size /\ R < w.heap.size /\ w.cell? ⟨g, 0, none⟩ = some (.iface 255 (PB R)) /\ w.cell? ⟨R, 4, none⟩ = some (.int .i64 36) else hv = .slice none 0 0
theorem HandV.later {w w' : World} {hv : Value} {h : Bool} (H : HandV w hv h) (hb : Below w.heap.size w w') : HandV w' hv h := by
 unfold HandV at H ⊢
 split
 . next e =>
   rw [if_pos e] at H
   obtain ⟨g, c, R, h1, h2, h3, h4, h5⟩ := H
   exact ⟨g, c, R, h1, Nat.lt_of_lt_of_le h2 hb.size, Nat.lt_of_lt_of_le h3 hb.size, (hb.cell (p := ⟨g, 0, none⟩) h2).trans h4, (hb.cell (p := ⟨R, 4, none⟩) h3).trans h5⟩
 . next e => rw [if_neg e] at H; exact H
def Way (h : Bool) (it : Item) (R : Nat) (S : Value) (w : World) : Prop :=
 (∃ fn, (fn = 154 \/ fn = 157 \/ fn = 159) /\ (∀ W, Calls Tryz.prog 144 #[.string ⟨#[it.ta, it.tb]⟩] W fun e w' => e = .returned (.tuple #[.func (.func fn) #[] #[], .bool true]) /\ w' = W) /\ ∀ W, Below w.heap.size w W -> Calls Tryz.prog fn #[S] W fun e w' => PostV (ItemV h it) W e w') \/
 (∀ W, Calls Tryz.prog 144 #[.string ⟨#[it.ta, it.tb]⟩] W fun e w' => e = .returned (.tuple #[.nilFunc, .bool false]) /\ w' = W) /\
   if h then ∀ W, Below w.heap.size w W -> Calls Tryz.prog 243 #[PB R, .string ⟨#[it.ta, it.tb]⟩, S] W fun e w' => PostV (fun v => ItemV h it v /\ ∃ t cs, v = .iface t (.agg cs)) W e w'
   else ∀ W, Below w.heap.size w W -> Calls Tryz.prog 145 #[S] W fun e w' => (∃ v, e = .returned v /\ ItemV h it v) /\ Below W.heap.size W w'
theorem way_of (h : Bool) (it : Item) (R D o n c : Nat) (w : World) (hok : it.Ok) (hs : SrcO w D o it.bytes) (hn : it.bytes.length = n) (hc : n <= c) (hR : h = true -> R < w.heap.size /\ w.cell? ⟨R, 4, none⟩ = some (.int .i64 36)) : Way h it R (.slice (some ⟨D, o, none⟩) n c) w := by
 have hS : ∀ W, Below w.heap.size w W -> SrcO W D o it.bytes := fun W hW => hs.later hW
 have hb := it.bd hok
 have hl := it.len
 cases it with
 | sp =>
   have e : n = 7 := hn.symm
   subst e
   exact .inl ⟨154, .inl rfl, parser_sp, fun W hW => (sp_any D o c W (hS W hW) hc).mono fun e w' ⟨h1, h2⟩ => ⟨⟨_, h1, rfl⟩, h2⟩⟩
 | er =>
   have e : n = 157 := hn.symm.trans (by rw [hl]; rfl)
   subst e
   exact .inl ⟨157, .inr (.inl rfl), parser_er, fun W hW => (er_any D o c W (hS W hW) hc).mono fun e w' ⟨h1, h2⟩ => ⟨⟨_, h1, rfl⟩, h2⟩⟩
 | ce x y z =>
   have e : n = 28 := hn.symm
   subst e
   obtain ⟨o1, o2, o3⟩ := hok
   exact .inl ⟨159, .inr (.inr rfl), parser_ce, fun W hW => (ce_any D o c x y z W (hS W hW) hc o1 o2 o3).mono fun e w' ⟨h1, h2⟩ => ⟨⟨_, h1, rfl⟩, h2⟩⟩
 | px f l =>
   have e : n = 36 := by rw [<- hn, hl]; show 4 + (manyB (pxNums f l)).length = 36; rw [manyB_len]; rfl
   obtain ⟨o1, o2, o3, o4⟩ := hok
   refine .inr ⟨parser_no _ _ (.inl ⟨rfl, rfl⟩), ?_⟩
   cases h with
   | true =>
     subst e
     obtain ⟨r1, r2⟩ := hR rfl
     exact fun W hW => process_px _ _ _ W ((px_any R D o c l f W (hS W hW) hc ((hW.cell (p := ⟨R, 4, none⟩) r1).trans r2) o1 o2 o3 o4).mono fun e w' ⟨h1, h2⟩ => ⟨⟨_, h1, rfl, _, _, rfl⟩, h2⟩)
   | false =>
     exact fun W hW => (raw_any D o n c 80 88 (manyB (pxNums f l)) W (hS W hW) (by rw [<- hn]; exact hl.symm) (by omega) (by omega) hc).mono fun e w' ⟨⟨cs, h1⟩, h2⟩ => ⟨⟨_, h1, cs, rfl⟩, h2⟩
 | tf t =>
   have e : n = 26 := by rw [<- hn, hl]; show 4 + (tfBody t 3).length = 26; rw [tfBody_len]
   refine .inr ⟨parser_no _ _ (.inr (.inl ⟨rfl, rfl⟩)), ?_⟩
   cases h with
   | true =>
     subst e
     exact fun W hW => process_tf _ _ _ W ((tf_any (PB R) D o c t W (hS W hW) hc).mono fun e w' ⟨⟨cs, h1⟩, h2⟩ => ⟨⟨_, h1, ⟨cs, rfl⟩, _, _, rfl⟩, h2⟩)
   | false =>
     exact fun W hW => (raw_any D o n c 84 70 (tfBody t 3) W (hS W hW) (by rw [<- hn]; exact hl.symm) (by omega) (by omega) hc).mono fun e w' ⟨⟨cs, h1⟩, h2⟩ => ⟨⟨_, h1, cs, rfl⟩, h2⟩
 | nm s =>
   obtain ⟨o1, o2⟩ := hok
   have e : 5 + s.length = n := by rw [<- hn, hl]; show _ = 4 + (0 :: s).length; simp; omega
   refine .inr ⟨parser_no _ _ (.inr (.inr (.inl ⟨rfl, rfl⟩))), ?_⟩
   cases h with
   | true => exact fun W hW => process_nm _ _ _ W ((nm_any (PB R) D o n c s W (hS W hW) e o1 o2 hc).mono fun e w' ⟨h1, h2⟩ => ⟨⟨_, h1, rfl, _, _, rfl⟩, h2⟩)
   | false =>
     exact fun W hW => (raw_any D o n c 78 77 (0 :: s) W (hS W hW) (by rw [<- hn]; exact hl.symm) (by omega) (by omega) hc).mono fun e w' ⟨⟨cs, h1⟩, h2⟩ => ⟨⟨_, h1, cs, rfl⟩, h2⟩
 | sl cs =>
   obtain ⟨o1, o2⟩ := hok
   have e : 5 + (compsB cs).length = n := by rw [<- hn, hl]; show _ = 4 + (0 :: compsB cs).length; simp; omega
   refine .inr ⟨parser_no _ _ (.inr (.inr (.inr ⟨rfl, rfl⟩))), ?_⟩
   cases h with
   | true => exact fun W hW => process_sl _ _ _ W ((sl_any (PB R) D o n c cs W (hS W hW) e o1 (by omega) hc).mono fun e w' ⟨h1, h2⟩ => ⟨⟨_, h1, rfl, _, _, rfl⟩, h2⟩)
   | false =>
     exact fun W hW => (raw_any D o n c 83 76 (0 :: compsB cs) W (hS W hW) (by rw [<- hn]; exact hl.symm) (by omega) (by omega) hc).mono fun e w' ⟨⟨cs, h1⟩, h2⟩ => ⟨⟨_, h1, cs, rfl⟩, h2⟩
def itemsB (its : List Item) : List UInt8 := its.flatMap Item.bytes
theorem itemsB_snoc (its : List Item) (c : Item) : itemsB (its ++ [c]) = itemsB its ++ c.bytes := by simp [itemsB]
theorem itemsB_split (its : List Item) (k : Nat) (c : Item) (h : its[k]? = some c) : itemsB its = itemsB (its.take k) ++ (c.bytes ++ itemsB (its.drop (k + 1))) := by
 have hk := (List.getElem?_eq_some_iff.1 h).1
 have e1 : its = its.take k ++ c :: its.drop (k + 1) := by
  rw [<- (List.getElem?_eq_some_iff.1 h).2, <- List.drop_eq_getElem_cons hk, List.take_append_drop]
 conv => lhs; rw [e1]
 simp [itemsB]
theorem SrcO.mid {w : World} {D o : Nat} {l p m s : List UInt8} (h : SrcO w D o l) (e : l = p ++ (m ++ s)) : SrcO w D (o + p.length) m := by
 refine ⟨h.1, fun j b hj => ?_⟩
 rw [Nat.add_assoc]
 refine h.2 (p.length + j) b ?_
 rw [e, List.getElem?_append_right (by omega), Nat.add_sub_cancel_left, List.getElem?_append_left (List.getElem?_eq_some_iff.1 hj).1]
 exact hj
def Al2 {α β : Type} (R : α -> β -> Prop) (xs : List α) (ys : List β) : Prop := xs.length = ys.length /\ ∀ (k : Nat) a b, xs[k]? = some a -> ys[k]? = some b -> R a b
def ItemsR (w w' : World) (h : Bool) (its : List Item) (e : Ending) : Prop := ∃ A co vs, e = .returned (.tuple #[.slice A its.length co, .nilIface]) /\ w'.ownsRow w.heap.size 247 1 (.slice A its.length co) its.length vs /\ Al2 (ItemV h) its vs /\ Below w.heap.size w w'
theorem Al2.snoc {α β : Type} {R : α -> β -> Prop} {xs : List α} {ys : List β} {a : α} {b : β} (h : Al2 R xs ys) (h2 : R a b) : Al2 R (xs ++ [a]) (ys ++ [b]) := by
 refine ⟨by simp [h.1], fun k x y hx hy => ?_⟩
 by_cases hk : k < xs.length
 . rw [List.getElem?_append_left hk] at hx
   rw [List.getElem?_append_left (by rw [<- h.1]; exact hk)] at hy
   exact h.2 k x y hx hy
 . rw [List.getElem?_append_right (by omega)] at hx
   rw [List.getElem?_append_right (by rw [<- h.1]; omega)] at hy
   have hk2 : k = xs.length := by
    have := (List.getElem?_eq_some_iff.1 hx).1
    simp at this; omega
   subst hk2
   rw [Nat.sub_self] at hx
   rw [h.1, Nat.sub_self] at hy
   simp at hx hy
   subst hx; subst hy
   exact h2
theorem Al2.nil {α β : Type} {R : α -> β -> Prop} : Al2 R ([] : List α) ([] : List β) := ⟨rfl, fun k x y h => by simp at h⟩
theorem row_notmap {w : World} {B e k n m co b : Nat} {A : Option Addr} {us : List Value} (hO : w.ownsRow B e k (.slice A m co) n us) (hb : w.heap[b]? = some (.map #[] 0)) : some b ≠ (Value.slice A m co).ownBlock := by
 intro e'
 rcases hO.2 with ⟨hv, _⟩ | ⟨g, cap, cur, hv, _, hg', _⟩
 . rw [hv] at e'; simp [Value.ownBlock] at e'
 . rw [hv] at e'
   simp only [Value.ownBlock, Option.some.injEq] at e'
   rw [<- e', hb] at hg'
   simp at hg'
theorem itemV_shape {h : Bool} {it : Item} {v : Value} (hv : ItemV h it v) : ∃ t cs, v = .iface t (.agg cs) := by
 cases it with
 | sp => exact ⟨_, _, hv⟩
 | er => exact ⟨_, _, hv⟩
 | ce x y z => exact ⟨_, _, hv⟩
 | px f l =>
   cases h with
   | true => exact ⟨_, _, hv⟩
   | false => obtain ⟨cs, e⟩ := hv; exact ⟨_, _, e⟩
 | tf t =>
   cases h with
   | true => obtain ⟨cs, e⟩ := hv; exact ⟨_, _, e⟩
   | false => obtain ⟨cs, e⟩ := hv; exact ⟨_, _, e⟩
 | nm s =>
   cases h with
   | true => exact ⟨_, _, hv⟩
   | false => obtain ⟨cs, e⟩ := hv; exact ⟨_, _, e⟩
 | sl cs =>
   cases h with
   | true => exact ⟨_, _, hv⟩
   | false => obtain ⟨cs, e⟩ := hv; exact ⟨_, _, e⟩
theorem pext_any (D o n c : Nat) (h : Bool) (hv : Value) (its : List Item) (tail : List UInt8) (w : World) (hs : SrcO w D o (itemsB its ++ tail)) (hn : (itemsB its).length + tail.length = n) (ht : tail.length <= 3) (hc : n <= c) (hn2 : n <= 100000) (hok : ∀ it ∈ its, it.Ok) (hH : HandV w hv h) (hl : its.length <= 1000) :
 Calls Tryz.prog 126 #[.slice (some ⟨D, o, none⟩) n c, hv] w fun e w' => ItemsR w w' h its e := by
 have HS := Lib.hid hs; have HN := Lib.hid hn; have HOK := Lib.hid hok; have HH := Lib.hid hH
 have hmm := @run_makeMap Tryz.prog
 clear hs hn hok hH
 go_enter Tryz.func126, Tryz.ntmps126
 go_upto_region 4 with (first
  | (at_make; refine asList rfl fun KK hKK => ?_; go_must (refine go_makeV under174 info247 (by decide) (.const (.int .i64 0)) (.const (.int .i64 0)) rfl w.heap.size .i64 .i64 0 rfl rfl (by decide) (Nat.le_refl _) ?_); intro w1 hO1 hb1 hs1; refine hKK _ _ ?_; clear hKK KK))
 clear hmm
 have hM := heap_alloc_new w1 (.map #[] 0)
 have hb2 : Below w.heap.size w (w1.alloc (.map #[] 0)) := hb1.alloc hb1.size _
 have hO2 := ownsRow_later hO1 ((Below.refl w1.heap.size w1).alloc (Nat.le_refl _) (.map #[] 0))
 obtain ⟨M, hMe⟩ : ∃ M, w.heap.size + 1 = M := ⟨_, rfl⟩
 rw [hs1, hMe] at hM
 rw [hMe]
 have HM := Lib.hid hM; have HB2 := Lib.hid hb2; have HO2 := Lib.hid hO2
 clear hM hb2 hO2 hO1 hb1 hs1
 generalize w1.alloc (.map #[] 0) = w2 at HM HB2 HO2 ⊢
 go_loopw [6, 8] (fun ev iv wr => ∃ (k i co : Nat) (A : Option Addr) (vs : List Value), k <= its.length /\ iv = .int .i64 i /\ i <= n /\ ev = .slice A k co /\ Hid ((itemsB (its.take k)).length = i) /\ Hid (wr.ownsRow w.heap.size 247 1 (.slice A k co) k vs) /\ Hid (Al2 (ItemV h) (its.take k) vs) /\ Hid (wr.heap[M]? = some (.map #[] 0)) /\ Below w.heap.size w wr) (fun _ iv _ => n - (intOf iv).toNat)
 case atStart => exact ⟨0, 0, 0, _, [], Nat.zero_le _, rfl, Nat.zero_le _, rfl, rfl, HO2.out, Al2.nil, HM.out, HB2.out⟩
 case round =>
  obtain ⟨k, i, co, A, vs, hk, rfl, hi, rfl, HI, HO, HF, HMr, hb⟩ := hrel
  by_cases hlt : k < its.length
  . obtain ⟨it, hit⟩ : ∃ it, its[k]? = some it := ⟨_, List.getElem?_eq_getElem hlt⟩
    have hsp := itemsB_split its k it hit
    have htk : its.take (k + 1) = its.take k ++ [it] := by
     rw [<- List.take_append_getElem hlt]; congr 2
     rw [List.getElem?_eq_getElem hlt] at hit; simpa using hit
    have hito := HOK.out it (List.mem_of_getElem? hit)
    obtain ⟨q, hq⟩ : ∃ q, it.bytes.length = q := ⟨_, rfl⟩
    obtain ⟨hq5, hq250⟩ := it.bd hito
    rw [hq] at hq5 hq250
    have hsrc : SrcO wr D (o + i) it.bytes := by
     have := (HS.out.later hb).mid (p := itemsB (its.take k)) (m := it.bytes) (s := itemsB (its.drop (k + 1)) ++ tail) (by rw [hsp]; simp)
     rwa [HI.out] at this
    have hin : i + q <= n := by
     have h1 := congrArg List.length hsp
     simp only [List.length_append] at h1
     have := HI.out; have := HN.out
     omega
    have hzs : (suspB it.ta it.tb it.body)[2]? = some (u8 q) := by
     show some (u8 (4 + it.body.length)) = _
     rw [<- it.len, hq]
    have c2 : wr.cell? ⟨D, o + i + 2, none⟩ = some (.int .u8 q) := by rw [hsrc.get 2 _ hzs, bv_u8 q (by omega)]
    have c2' : wr.cell? ⟨D, o + (i + 2), none⟩ = some (.int .u8 q) := by rw [<- Nat.add_assoc]; exact c2
    have rsig : RdO wr (fun _ => True) (.slice (some ⟨D, o + i, none⟩) 2 (c - i)) [it.ta, it.tb] := hsrc.rd0 (n := 2) rfl (fun j hj => by match j, hj with | 0, _ => rfl | 1, _ => rfl)
    have hR : ∃ R g c', h = true -> hv = .slice (some ⟨g, 0, none⟩) 1 c' /\ wr.cell? ⟨g, 0, none⟩ = some (.iface 255 (PB R)) /\ R < wr.heap.size /\ wr.cell? ⟨R, 4, none⟩ = some (.int .i64 36) := by
     cases h with
     | true =>
       obtain ⟨g, c', R, h1, h2, h3, h4, h5⟩ := HH.out.later hb
       exact ⟨R, g, c', fun _ => ⟨h1, h4, h3, h5⟩⟩
     | false => exact ⟨0, 0, 0, fun h => by cases h⟩
    have HSIG := Lib.hid rsig; have HSRC := Lib.hid hsrc; have HTK := Lib.hid htk; have HQ := Lib.hid hq; have HIO := Lib.hid hito
    have zi : (i : Int) + 3 < (n : Int) := by omega
    have zc1 : (i : Int) + 2 <= (c : Int) := by omega
    have zc2 : ¬ c = i := by omega
    have zc3 : (i : Int) + (q : Int) <= (c : Int) := by omega
    have zn : (i : Int) + 2 < (n : Int) := by omega
    clear hsp hito hq hsrc rsig htk hit hzs c2
    go_upto_region 11 with (first
     | (refine atConvert 27 9 ?_; refine asList rfl fun KK hKK => ?_; go_must (refine wp_toStr (.tmp 31) rfl (fun _ => True) _ [it.ta, it.tb] rfl (RdO.castn HSIG.out (by omega) (by omega)) ?_); refine hKK _ _ ?_; clear hKK KK))
    rw [show i + q - i = q by omega]
    obtain ⟨R, g, c', hRR⟩ := hR
    have hway := way_of h it R D (o + i) q (c - i) wr HIO.out HSRC.out HQ.out (by omega) (fun e => (hRR e).2.2)
    have hsz2 : (ofL [it.ta, it.tb]).size <= maxLen := by rw [size_ofL]; show 2 <= maxLen; decide
    have hvl : vs.length = k := by have := HF.out.1; rw [List.length_take, Nat.min_eq_left hk] at this; exact this.symm
    have hMl := (Array.getElem?_eq_some_iff.1 HMr.out).1
    have HVL := Lib.hid hvl
    have hst : ofL [it.ta, it.tb] = ⟨#[it.ta, it.tb]⟩ := rfl
    rw [hst] at hsz2 ⊢
    clear c2' hvl hst
    have fin : ∀ (v : Value) (W w6 : World) (A6 : Option Addr) (c6 : Nat), ItemV h it v -> Below wr.heap.size wr W -> w6.ownsRow w.heap.size 247 1 (.slice A6 (k + 1) c6) (k + 1) (vs ++ [v]) -> Below w.heap.size W w6 -> W.grownBy w6 (Value.slice A k co).ownBlock -> ∃ (k' i' co' : Nat) (A' : Option Addr) (vs' : List Value), k' <= its.length /\ (.int .i64 ((i : Int) + (q : Int)) : Value) = .int .i64 i' /\ i' <= n /\ (.slice A6 (k + 1) c6 : Value) = .slice A' k' co' /\ Hid ((itemsB (its.take k')).length = i') /\ Hid (w6.ownsRow w.heap.size 247 1 (.slice A' k' co') k' vs') /\ Hid (Al2 (ItemV h) (its.take k') vs') /\ Hid (w6.heap[M]? = some (.map #[] 0)) /\ Below w.heap.size w w6 := by
     intro v W w6 A6 c6 hv hW hO6 hb6 hg6
     have hMW : W.heap[M]? = some (.map #[] 0) := (hW.block M hMl).trans HMr.out
     have hMl2 := (Array.getElem?_eq_some_iff.1 hMW).1
     refine ⟨k + 1, i + q, c6, A6, vs ++ [v], hlt, by congr 1, hin, rfl, ?_, hO6, ?_, ?_, (hb.trans (hW.mono hb.size)).trans hb6⟩
     . unfold Hid; rw [HTK.out, itemsB_snoc, List.length_append, HI.out, HQ.out]
     . unfold Hid; rw [HTK.out]; exact HF.out.snoc hv
     . exact (hg6.block M hMl2 (row_notmap (ownsRow_later HO.out hW) hMW)).trans hMW
    have FIN := Lib.hid fin
    clear fin
    rcases hway with ⟨fn, hfn, h144, hp⟩ | ⟨h144, hp⟩
    . have H144 := Lib.hid h144; have HP := Lib.hid hp
      clear h144 hp
      rcases hfn with rfl | rfl | rfl
      all_goals
       go_wp2_with (first
        | (at_builtin; refine asList rfl fun KK hKK => ?_; go_must (refine go_appV (w := w4) under174 info247 (by decide) (.tmp 108) (.tmp 110) rfl w.heap.size w4.heap.size k A co vs (.iface t1 (.agg cs1)) HVL.out.symm rfl HO4.out ((Below.refl _ _).alloc (Nat.le_refl _) _) (heap_alloc_new w4 _) rfl rfl rfl (by omega) HB4.out.size ?_); intro A6 c6 w6 hO6 hb6 hg6; refine hKK _ _ ?_; clear hKK KK)
        | (refine atLookupMt ?_; go_must (refine lookMt rfl _ _ rfl M rfl HM4.out _ rfl hsz2 ?_))
        | (go_at_call 154; go_must (refine (HP.out _ (Below.refl _ _)).mono ?_); rintro e w4 ⟨⟨v, rfl, hv⟩, hx4⟩; obtain ⟨t1, cs1, rfl⟩ := itemV_shape hv; have HO4 := Lib.hid (ownsRow_later HO.out hx4); have HM4 := Lib.hid ((hx4.block M hMl).trans HMr.out); have HB4 := Lib.hid (hb.trans (hx4.mono hb.size)))
        | (go_at_call 157; go_must (refine (HP.out _ (Below.refl _ _)).mono ?_); rintro e w4 ⟨⟨v, rfl, hv⟩, hx4⟩; obtain ⟨t1, cs1, rfl⟩ := itemV_shape hv; have HO4 := Lib.hid (ownsRow_later HO.out hx4); have HM4 := Lib.hid ((hx4.block M hMl).trans HMr.out); have HB4 := Lib.hid (hb.trans (hx4.mono hb.size)))
        | (go_at_call 159; go_must (refine (HP.out _ (Below.refl _ _)).mono ?_); rintro e w4 ⟨⟨v, rfl, hv⟩, hx4⟩; obtain ⟨t1, cs1, rfl⟩ := itemV_shape hv; have HO4 := Lib.hid (ownsRow_later HO.out hx4); have HM4 := Lib.hid ((hx4.block M hMl).trans HMr.out); have HB4 := Lib.hid (hb.trans (hx4.mono hb.size)))
        | (go_at_call 144; go_must (refine (H144.out _).mono ?_); rintro e w3 ⟨rfl, h3⟩; have h3' := h3.symm; subst h3'))
       go_roundw
       case rel => exact FIN.out _ w4 w6 A6 c6 hv hx4 hO6 hb6 hg6
       case measure => simp [intOf]; omega
    . have H144 := Lib.hid h144; have HP := Lib.hid hp
      clear h144 hp
      cases h with
      | true =>
        obtain ⟨rfl, hg0, _, _⟩ := hRR rfl
        have m1 := method_Process ⟨R, 0, none⟩
        clear hRR
        go_wp2_with (first
         | (go_at_call 144; go_must (refine (H144.out _).mono ?_); rintro e w3 ⟨rfl, h3⟩; have h3' := h3.symm; subst h3'))
        refine wp_loop_rounds 2 ?_
        rw [rounds_succ]
        go_wp2_with (first
         | (at_builtin; refine asList rfl fun KK hKK => ?_; go_must (refine go_appV (w := w4) under174 info247 (by decide) (.tmp 108) (.tmp 110) rfl w.heap.size w4.heap.size k A co vs (.iface t1 (.agg cs1)) HVL.out.symm rfl HO4.out ((Below.refl _ _).alloc (Nat.le_refl _) _) (heap_alloc_new w4 _) rfl rfl rfl (by omega) HB4.out.size ?_); intro A6 c6 w6 hO6 hb6 hg6; refine hKK _ _ ?_; clear hKK KK)
         | (refine atLookupMt ?_; go_must (refine lookMt rfl _ _ rfl M rfl HM4.out _ rfl hsz2 ?_))
         | (go_at_call 243; go_must (refine (HP.out _ (Below.refl _ _)).mono ?_); rintro e w4 ⟨⟨v, rfl, hv, t1, cs1, rfl⟩, hx4⟩; have HO4 := Lib.hid (ownsRow_later HO.out hx4); have HM4 := Lib.hid ((hx4.block M hMl).trans HMr.out); have HB4 := Lib.hid (hb.trans (hx4.mono hb.size))))
        go_roundw
        case rel => exact FIN.out _ w4 w6 A6 c6 hv hx4 hO6 hb6 hg6
        case measure => simp [intOf]; omega
      | false =>
        have hvn : hv = .slice none 0 0 := HH.out
        subst hvn
        clear hRR
        go_wp2_with (first
         | (go_at_call 144; go_must (refine (H144.out _).mono ?_); rintro e w3 ⟨rfl, h3⟩; have h3' := h3.symm; subst h3'))
        refine wp_loop_rounds 1 ?_
        rw [rounds_succ]
        go_wp2_with (first
         | (at_builtin; refine asList rfl fun KK hKK => ?_; go_must (refine go_appV (w := w4) under174 info247 (by decide) (.tmp 108) (.tmp 110) rfl w.heap.size w4.heap.size k A co vs (.iface t1 (.agg cs1)) HVL.out.symm rfl HO4.out ((Below.refl _ _).alloc (Nat.le_refl _) _) (heap_alloc_new w4 _) rfl rfl rfl (by omega) HB4.out.size ?_); intro A6 c6 w6 hO6 hb6 hg6; refine hKK _ _ ?_; clear hKK KK)
         | (refine atLookupMt ?_; go_must (refine lookMt rfl _ _ rfl M rfl HM4.out _ rfl hsz2 ?_))
         | (go_at_call 145; go_must (refine (HP.out _ (Below.refl _ _)).mono ?_); rintro e w4 ⟨⟨v, rfl, hv⟩, hx4⟩; obtain ⟨t1, cs1, rfl⟩ := itemV_shape hv; have HO4 := Lib.hid (ownsRow_later HO.out hx4); have HM4 := Lib.hid ((hx4.block M hMl).trans HMr.out); have HB4 := Lib.hid (hb.trans (hx4.mono hb.size))))
        go_roundw
        case rel => exact FIN.out _ w4 w6 A6 c6 hv hx4 hO6 hb6 hg6
        case measure => simp [intOf]; omega
  . have hke : k = its.length := by omega
    subst hke
    have hI := HI.out
    have hF := HF.out
    rw [List.take_length] at hI hF
    have hni : n <= i + 3 := by have := HN.out; omega
    have HF2 := Lib.hid hF
    clear hI hF
    go_wp2
    go_ret2
    exact ⟨A, co, vs, rfl, HO.out, HF2.out, hb⟩
end Go.Proofs.YtilgpaeeleknhaaGreatDoor
