/- A part of the proof of laws.FnIsoRock (see the last text). -/
import Derived.Test.YtilgpaeeleknhaaGreatDoorJr21
import Derived.Test.YtilgpaeeleknhaaGreatDoorJr02
set_option linter.unusedSimpArgs false
set_option linter.unusedVariables false
set_option maxRecDepth 1000000
set_option maxHeartbeats 8000000
namespace Go.Proofs.YtilgpaeeleknhaaGreatDoor
open Go Go.RowKit
def Tabs (w : World) : Prop := Lib.Utf8Tabs 1 2 w
theorem Tabs.later {w w' : World} (h : Tabs w) (hb : Below w.heap.size w w') : Tabs w' := Utf8Tabs_below h hb
theorem valid_asc (l : List UInt8) (h : ∀ b ∈ l, b.toNat < 128) : Lib.validD l = true := by
 have := Lib.valid_skip (ofL l) l.length (fun b hb => h b (List.mem_of_mem_take hb))
 rw [Lib.ext_list] at this
 simp only [List.drop_length] at this
 rw [<- this]; rfl
theorem get_first (nm : ByteArray) (s tl : List UInt8) (h : nm.data.toList = s ++ tl) (j : Nat) (hj : j < s.length) (h2 : j < nm.size) : nm[j] = s[j] := by
 show nm.data[j]'h2 = _
 have e : nm.data.toList[j]'(by rw [h, List.length_append]; omega) = s[j] := by
  simp only [h]; exact List.getElem_append_left hj
 rw [<- e]; simp
theorem get_slash (nm : ByteArray) (s tl : List UInt8) (c : UInt8) (h : nm.data.toList = s ++ c :: tl) (h2 : s.length < nm.size) : nm[s.length] = c := by
 show nm.data[s.length]'h2 = _
 have e : nm.data.toList[s.length]'(by rw [h]; simp) = c := by
  simp only [h]; simp
 rw [<- e]; simp
theorem validPath_any (ps : List (List UInt8)) (w : World) (hne : ps ≠ []) (hg : ∀ s ∈ ps, GoodPart s) (hT : Tabs w) (hv : Lib.validD (joinP ps) = true) (hl : (joinP ps).length <= 10000) :
 Calls Tryz.prog 107 #[SV (joinP ps)] w fun e w' => e = .returned (.bool true) /\ Below w.heap.size w w' := by
 have hsz : (ofL (joinP ps)).size <= 10000 := by rw [size_ofL]; exact hl
 have HV := Lib.hid (fun (W : World) (h : Tabs W) => (Tryz.utf8_ValidString (ofL (joinP ps)) W (by omega) h))
 have hv2 : Lib.validD (ofL (joinP ps)).data.toList = true := hv
 rw [hv2] at HV
 obtain ⟨st, hst⟩ : ∃ st, ofL (joinP ps) = st := ⟨_, rfl⟩
 have hst2 : st.data.toList = joinP ps := by rw [<- hst]
 unfold SV
 rw [hst] at HV hsz ⊢
 have HG := Lib.hid hg; have HST := Lib.hid hst2
 have hT' := Lib.hid hT
 clear hst hst2 hg hv hv2 hl hT
 by_cases hdot : st.data.toList = [46]
 . have hde : st = ofL [46] := (ofL_iff _ _).2 hdot
   subst hde
   go_enter Tryz.func107, Tryz.ntmps107
   go_wp2_with (go_at_call 43; refine (HV.out _ hT'.out).mono ?_; rintro e w2 ⟨rfl, hb2⟩)
   go_ret
   exact ⟨rfl, hb2⟩
 . have hdb : (st.data.toList == [46]) = false := by simpa using hdot
   have hdb2 : (st.toList == [46]) = false := by rw [Lib.toList_data]; exact hdb
   clear hdot hdb
   go_enter Tryz.func107, Tryz.ntmps107
   go_wp2_with (go_at_call 43; refine (HV.out _ hT'.out).mono ?_; rintro e w2 ⟨rfl, hb2⟩)
   go_loopw [0] (fun sv wr => ∃ (nm : ByteArray) (k : Nat), sv = .string nm /\ k < ps.length /\ Hid (nm.data.toList = joinP (ps.drop k)) /\ nm.size <= st.size /\ Below w.heap.size w wr) (fun sv _ => match sv with | .string c => c.size | _ => 0)
   case atStart => exact ⟨st, 0, rfl, List.length_pos_iff.2 hne, by unfold Hid; rw [List.drop_zero]; exact HST.out, Nat.le_refl _, hb2⟩
   case round =>
    clear hdb2
    obtain ⟨nm, k, rfl, hk, hnm, hns, hb⟩ := hrel
    have hdr := List.drop_eq_getElem_cons hk
    obtain ⟨s, hs⟩ : ∃ s, ps[k] = s := ⟨_, rfl⟩
    have hgs : GoodPart s := by rw [<- hs]; exact HG.out _ (List.getElem_mem hk)
    rw [hs] at hdr
    obtain ⟨T, hTT, hor⟩ : ∃ T, nm.data.toList = s ++ T /\ ((T = [] /\ k + 1 = ps.length) \/ (k + 1 < ps.length /\ T = 47 :: joinP (ps.drop (k + 1)))) := by
     by_cases hlast : k + 1 = ps.length
     . refine ⟨[], ?_, .inl ⟨rfl, hlast⟩⟩
       rw [hnm.out, hdr, List.drop_eq_nil_of_le (by omega), joinP_one, List.append_nil]
     . refine ⟨47 :: joinP (ps.drop (k + 1)), ?_, .inr ⟨by omega, rfl⟩⟩
       rw [hnm.out, hdr, joinP_cons]
       intro e
       have := congrArg List.length e
       rw [List.length_drop] at this; simp at this; omega
    have hsize : nm.size = s.length + T.length := by rw [Lib.size_eq, hTT, List.length_append]
    obtain ⟨n, hn⟩ : ∃ n, s.length = n := ⟨_, rfl⟩
    have hx := extract_head nm s T hTT
    rw [hn] at hx hsize
    have e1 : s.isEmpty = false := by cases s with | nil => exact absurd rfl hgs.ne | cons _ _ => rfl
    have e2 : (s == [46]) = false := by simpa using hgs.dot
    have e3 : (s == [46, 46]) = false := by simpa using hgs.dots
    have HTT := Lib.hid hTT; have HN := Lib.hid hn; have HOR := Lib.hid hor; have HDR := Lib.hid hdr
    have hgs' := Lib.hid hgs
    clear hTT hn hor hdr hs hgs
    have hnsz : n <= nm.size := by omega
    have HSIZE := Lib.hid hsize
    clear hsize
    go_wp2_with (fail)
    go_loopw [3] (fun iv wr' => ∃ j : Nat, j <= n /\ iv = .int .i64 j /\ wr' = wr) (fun iv _ => n - (intOf iv).toNat)
    case atStart => exact ⟨0, Nat.zero_le _, rfl, rfl⟩
    case round =>
     obtain ⟨j, hj, rfl, rfl⟩ := hrel
     by_cases hlt : j < n
     . have hjs : j < nm.size := by omega
       have hgj := get_first nm s T HTT.out j (by rw [HN.out]; exact hlt) hjs
       have hne47 : ((nm[j].toNat : Int) != 47) = true := by
        simp only [bne_iff_ne, ne_eq]
        intro e
        have : nm[j] = 47 := UInt8.toNat_inj.1 (by show nm[j].toNat = 47; omega)
        rw [hgj] at this
        exact hgs'.out.no (by rw [<- this]; exact List.getElem_mem _)
       have hjI : (j : Int) < (nm.size : Int) := by omega
       clear hgj
       go_wp2_with (fail)
       go_roundw
       case rel => exact ⟨j + 1, hlt, by simp, by first | rfl | trivial⟩
       case measure => simp [intOf]; omega
     . have hje : j = n := by omega
       subst hje
       rcases HOR.out with ⟨hTe, hlast⟩ | ⟨hlast, hTe⟩
       . have hsz2 : nm.size = j := by rw [HSIZE.out, hTe]; rfl
         go_wp2_with (fail)
         go_ret
         exact ⟨rfl, hb⟩
       . have hjs : j < nm.size := by rw [HSIZE.out, hTe]; simp
         have hg47 : nm[j] = 47 := by
          have hh := HTT.out
          rw [hTe] at hh
          have := get_slash nm s _ 47 hh (by rw [HN.out]; exact hjs)
          simp only [HN.out] at this
          exact this
         have hne47 : ((nm[j].toNat : Int) != 47) = false := by rw [hg47]; rfl
         have hjI : (j : Int) < (nm.size : Int) := by omega
         have hj1 : (j : Int) + 1 <= (nm.size : Int) := by omega
         have htl := extract_tail nm s (joinP (ps.drop (k + 1))) 47 (by rw [HTT.out, hTe])
         rw [HN.out] at htl
         have hsz3 : j + 1 + (joinP (ps.drop (k + 1))).length = nm.size := by rw [HSIZE.out, hTe]; simp; omega
         have HSZ3 := Lib.hid hsz3
         clear hg47 hTe hsz3
         go_wp2_with (fail)
         go_roundw
         case rel => exact ⟨ofL (joinP (ps.drop (k + 1))), k + 1, rfl, hlast, rfl, by rw [size_ofL]; have := HSZ3.out; omega, hb⟩
         case measure => show (ofL (joinP (ps.drop (k + 1)))).size < nm.size; rw [size_ofL]; have := HSZ3.out; omega
theorem vpath_any (ps : List (List UInt8)) (w : World) (hne : ps ≠ []) (hg : ∀ s ∈ ps, GoodPart s) (hT : Tabs w) (hv : Lib.validD (joinP ps) = true) (hl : (joinP ps).length <= 10000) :
 Calls Tryz.prog 82 #[SV (joinP ps)] w fun e w' => e = .returned .nilIface /\ Below w.heap.size w w' := by
 have HV := Lib.hid (fun W h => validPath_any ps W hne hg h hv hl)
 unfold SV at *
 obtain ⟨st, hst⟩ : ∃ st, ofL (joinP ps) = st := ⟨_, rfl⟩
 rw [hst] at HV ⊢
 go_enter Tryz.func82, Tryz.ntmps82
 go_wp2_with (go_at_call 107; refine (HV.out _ hT).mono ?_; rintro e w2 ⟨rfl, hb2⟩)
 go_ret
 exact ⟨rfl, hb2⟩
theorem vpath_dot (w : World) (hT : Tabs w) :
 Calls Tryz.prog 82 #[SV [46]] w fun e w' => e = .returned .nilIface /\ Below w.heap.size w w' := by
 have h1 : Calls Tryz.prog 107 #[SV [46]] w fun e w' => e = .returned (.bool true) /\ Below w.heap.size w w' := by
  have HV := Lib.hid (fun (W : World) (h : Tabs W) => (Tryz.utf8_ValidString (ofL [46]) W (by rw [size_ofL]; decide) h))
  have hv2 : Lib.validD (ofL [46]).data.toList = true := valid_asc [46] (by decide)
  rw [hv2] at HV
  go_enter Tryz.func107, Tryz.ntmps107
  go_wp2_with (go_at_call 43; refine (HV.out _ hT).mono ?_; rintro e w2 ⟨rfl, hb2⟩)
  go_ret
  exact ⟨rfl, hb2⟩
 have H1 := Lib.hid h1
 clear h1
 go_enter Tryz.func82, Tryz.ntmps82
 go_wp2_with (go_at_call 107; refine (H1.out).mono ?_; rintro e w2 ⟨rfl, hb2⟩)
 go_ret
 exact ⟨rfl, hb2⟩
def numOf (l : List UInt8) : Nat := l.foldl (fun n b => n * 10 + (b.toNat - 48)) 0
theorem numOf_snoc (l : List UInt8) (b : UInt8) : numOf (l ++ [b]) = numOf l * 10 + (b.toNat - 48) := by simp [numOf, List.foldl_append]
theorem numOf_le' (l : List UInt8) : ∀ n : Nat, (∀ b ∈ l, b.toNat <= 57) -> l.foldl (fun n b => n * 10 + (b.toNat - 48)) n < (n + 1) * 10 ^ l.length := by
 induction l with
 | nil => intro n _; simp
 | cons b l ih =>
   intro n h
   have h1 := ih (n * 10 + (b.toNat - 48)) (fun x hx => h x (by simp [hx]))
   have h2 := h b (by simp)
   simp only [List.foldl_cons, List.length_cons, Nat.pow_succ]
   have h3 : (n * 10 + (b.toNat - 48) + 1) * 10 ^ l.length <= ((n + 1) * 10) * 10 ^ l.length := Nat.mul_le_mul_right _ (by omega)
   have h4 : (n + 1) * (10 ^ l.length * 10) = ((n + 1) * 10) * 10 ^ l.length := by rw [Nat.mul_comm (10 ^ l.length) 10, Nat.mul_assoc]
   omega
theorem numOf_le (l : List UInt8) (h : ∀ b ∈ l, b.toNat <= 57) : numOf l < 10 ^ l.length := by
 have := numOf_le' l 0 h
 unfold numOf; omega
theorem numbers_any (g n c : Nat) (ss : List (List UInt8)) (w : World) (hn : ss.length = n) (hn1 : n <= 100) (hg : g < w.heap.size) (hc : ∀ (j : Nat) s, ss[j]? = some s -> w.cell? ⟨g, j, none⟩ = some (SV s)) (hd : ∀ s ∈ ss, s.length <= 4 /\ ∀ b ∈ s, 48 <= b.toNat /\ b.toNat <= 57) :
 Calls Tryz.prog 140 #[.slice (some ⟨g, 0, none⟩) n c] w fun e w' => ∃ A co, e = .returned (.tuple #[.slice A n co, .bool true]) /\ w'.ownsRow w.heap.size 3 1 (.slice A n co) n ((ss.map numOf).map IV) /\ Below w.heap.size w w' := by
 have HC := Lib.hid hc; have HD := Lib.hid hd; have HN := Lib.hid hn
 clear hc hd hn
 go_enter Tryz.func140, Tryz.ntmps140
 go_wp2_with (fail)
 go_loopw [2, 10] (fun ov iv wr => ∃ (k : Nat) (A : Option Addr) (co : Nat), k <= n /\ iv = .int .i64 k /\ ov = .slice A k co /\ Hid (wr.ownsRow w.heap.size 3 1 (.slice A k co) k (((ss.take k).map numOf).map IV)) /\ Below w.heap.size w wr) (fun _ iv _ => n - (intOf iv).toNat)
 case atStart => exact ⟨0, none, 0, Nat.zero_le _, rfl, rfl, World.ownsRow_nil _ _ _ _, Below.refl _ _⟩
 case round =>
  obtain ⟨k, A, co, hk, rfl, rfl, hO, hb⟩ := hrel
  by_cases hlt : k < n
  . have hks : k < ss.length := by rw [HN.out]; exact hlt
    obtain ⟨s, hs⟩ : ∃ s, ss[k]? = some s := ⟨_, List.getElem?_eq_getElem hks⟩
    have hcell := HC.out k s hs
    rw [<- hb.cell (p := ⟨g, k, none⟩) hg] at hcell
    have htk : ss.take (k + 1) = ss.take k ++ [s] := by
     rw [<- List.take_append_getElem hks]; congr 2
     rw [List.getElem?_eq_getElem hks] at hs; simpa using hs
    obtain ⟨hs4, hsd⟩ := HD.out s (List.mem_of_getElem? hs)
    obtain ⟨st, hst⟩ : ∃ st, ofL s = st := ⟨_, rfl⟩
    have hst2 : st.data.toList = s := by rw [<- hst]
    have hssz : st.size = s.length := by rw [<- hst, size_ofL]
    unfold SV at hcell
    rw [hst] at hcell
    have HST := Lib.hid hst2; have HTK := Lib.hid htk; have HSD := Lib.hid hsd
    clear htk hs hsd hst hst2
    obtain ⟨m, hm⟩ : ∃ m, s.length = m := ⟨_, rfl⟩
    rw [hm] at hssz hs4
    have HM := Lib.hid hm
    clear hm
    have hssI : (st.size : Int) = (m : Int) := by omega
    go_wp2_with (fail)
    go_loopw [2, 6, 16] (fun ov nv iv wr' => ∃ j : Nat, j <= m /\ iv = .int .i64 j /\ nv = .int .i64 (numOf (s.take j)) /\ ov = .slice A k co /\ wr' = wr) (fun _ _ iv _ => m - (intOf iv).toNat)
    case atStart => exact ⟨0, Nat.zero_le _, rfl, rfl, rfl, rfl⟩
    case round =>
     obtain ⟨j, hj, rfl, rfl, rfl, rfl⟩ := hrel
     by_cases hjl : j < m
     . have hjs : j < st.size := by omega
       have hjs2 : j < s.length := by rw [HM.out]; exact hjl
       obtain ⟨b, hbj⟩ : ∃ b, s[j] = b := ⟨_, rfl⟩
       have hgj : st[j] = b := by
        rw [<- hbj]
        exact get_first st s [] (by rw [HST.out, List.append_nil]) j hjs2 hjs
       obtain ⟨hb48, hb57⟩ := HSD.out b (by rw [<- hbj]; exact List.getElem_mem _)
       have htk2 : s.take (j + 1) = s.take j ++ [b] := by rw [<- List.take_append_getElem hjs2, hbj]
       have hle := numOf_le (s.take j) (fun x hx => (HSD.out x (List.mem_of_mem_take hx)).2)
       have hpow : 10 ^ (s.take j).length <= 10 ^ 4 := Nat.pow_le_pow_right (by decide) (by rw [List.length_take]; omega)
       have hle2 : numOf (s.take j) < 10000 := Nat.lt_of_lt_of_le hle hpow
       have hns := numOf_snoc (s.take j) b
       rw [<- htk2] at hns
       obtain ⟨N, hN⟩ : ∃ N, numOf (s.take j) = N := ⟨_, rfl⟩
       rw [hN] at hle2 hns
       rw [hN]
       obtain ⟨z, hz⟩ : ∃ z : Nat, b.toNat = z := ⟨_, rfl⟩
       rw [hz] at hb48 hb57 hns
       have hzz : (st[j].toNat : Int) = (z : Int) := by rw [hgj, hz]
       have HNS := Lib.hid hns
       have hb48I : (48 : Int) <= (z : Int) := by omega
       have hb57I : (z : Int) <= 57 := by omega
       clear hle hpow hns htk2 hbj hgj hz hN
       go_wp2_with (fail)
       go_roundw
       case rel => exact ⟨j + 1, hjl, by simp, by rw [HNS.out]; congr 1; omega, rfl, by first | rfl | trivial⟩
       case measure => simp [intOf]; omega
     . have hje : j = m := by omega
       subst hje
       have hbb := hb.size
       go_wp2_with (at_builtin; refine asList rfl fun KK hKK => ?_; refine go_appV (w := wr) under62 info3z (by decide) (.tmp 38) (.tmp 40) rfl w.heap.size wr.heap.size k A co (((ss.take k).map numOf).map IV) (IV (numOf (s.take j))) (by rw [List.length_map, List.length_map, List.length_take]; have := HN.out; omega) rfl hO.out ((Below.refl _ _).alloc (Nat.le_refl _) _) (by show (wr.heap.push _)[wr.heap.size]? = _; rw [Array.getElem?_push_size]; rfl) rfl rfl rfl (by omega) hbb ?_; intro A6 c6 w6 hO6 hb6 hg6; refine hKK _ _ ?_; clear hKK KK)
       go_roundw
       case rel =>
        refine ⟨k + 1, A6, c6, hlt, by simp, rfl, ?_, hb.trans hb6⟩
        unfold Hid
        rw [HTK.out, List.map_append, List.map_append]
        have e : s.take j = s := by rw [List.take_of_length_le (by rw [HM.out]; exact Nat.le_refl _)]
        rw [e] at hO6
        exact hO6
       case measure => simp [intOf]; omega
  . go_wp2_with (fail)
    go_ret2
    have hke : k = n := by omega
    subst hke
    have hO := hO.out
    rw [<- HN.out, List.take_length, HN.out] at hO
    exact ⟨A, co, rfl, hO, hb⟩
end Go.Proofs.YtilgpaeeleknhaaGreatDoor
