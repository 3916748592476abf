/- A part of the proof of laws.FnIsoRock (see the last text). -/
import Derived.Test.YtilgpaeeleknhaaGreatDoorJr24
import Derived.Test.YtilgpaeeleknhaaGreatDoorJr22
set_option linter.unusedSimpArgs false
set_option linter.unusedVariables false
set_option maxRecDepth 1000000
set_option maxHeartbeats 8000000
namespace Go.Proofs.YtilgpaeeleknhaaGreatDoor
open Go Go.RowKit
def FN (l : List UInt8) (t : Nat) : Prop := ∀ b ∈ l.take t, b ≠ 47 /\ b ≠ 0
theorem FN.start (l : List UInt8) : FN l 0 := by intro b hb; simp at hb
theorem FN.more {l : List UInt8} {t : Nat} (h : FN l t) (c : UInt8) (hc : l[t]? = some c) (h1 : c ≠ 47) (h2 : c ≠ 0) : FN l (t + 1) := by
 intro b hb
 rw [List.take_add_one, hc] at hb
 rcases List.mem_append.1 hb with h' | h'
 . exact h b h'
 . simp at h'; subst h'; exact ⟨h1, h2⟩
theorem freeName_any (s : ByteArray) (w : World) (h1 : s.size <= 2147483647) :
 Calls Tryz.prog 24 #[.string s] w fun e w' => BoolR e (fun r => r = true -> FreeName s.data.toList) /\ w' = w := by
 have hsz : s.data.toList.length = s.size := by rw [Array.length_toList]; rfl
 have HS := Lib.hid hsz
 clear hsz
 go_enter Tryz.func24, Tryz.ntmps24
 go_wp2_with (fail)
 go_loopw [6] (fun iv wr => ∃ (t : Nat), t <= s.size /\ iv = .int .i64 t /\ Hid (FN s.data.toList t) /\ wr = w) (fun iv _ => s.size - (intOf iv).toNat)
 case atStart => exact ⟨0, Nat.zero_le _, rfl, FN.start _, rfl⟩
 case round =>
  obtain ⟨t, ht, rfl, hP, hw⟩ := hrel
  have hw' := hw.symm
  clear hw
  subst hw'
  by_cases hlt : t < s.size
  . have hgt : s.data.toList[t]? = some s[t] := by
     rw [List.getElem?_eq_getElem (by rw [HS.out]; omega)]
     rfl
    have HG := Lib.hid hgt
    clear hgt
    go_wp2_with (fail)
    all_goals first
     | (go_ret; exact ⟨BoolR.intro false (fun h => by cases h), rfl⟩)
     | (go_roundw
        case rel =>
         have hz := ‹((s[t].toNat : Int) == 47) = false /\ ((s[t].toNat : Int) == 0) = false›
         refine ⟨t + 1, hlt, by simp, FN.more hP.out _ HG.out (fun e => ?_) (fun e => ?_), trivial⟩
         . rw [e] at hz; exact absurd hz.1 (by decide)
         . rw [e] at hz; exact absurd hz.2 (by decide)
        case measure => simp [intOf]; omega)
  . have hte : t = s.size := by omega
    subst hte
    go_wp2_with (fail)
    all_goals
     go_ret
     refine ⟨BoolR.intro _ (fun hr => ?_), rfl⟩
     first
      | (exfalso; cases hr; done)
      | (have hz : s.data.toList ≠ [46] /\ s.data.toList ≠ [46, 46] := by rw [<- Lib.toList_data]; simpa using hr
         have hall : ∀ b ∈ s.data.toList, b ≠ 47 /\ b ≠ 0 := by
          have h := hP.out
          unfold FN at h
          rw [List.take_of_length_le (by rw [HS.out]; exact Nat.le_refl _)] at h
          exact h
         exact ⟨⟨fun h => (hall _ h).1 rfl, fun h => (hall _ h).2 rfl⟩, hz, by rw [HS.out]; omega⟩)
theorem validNames_any (cap : Nat) (A : Option Addr) (fs : List File) (w : World) (hA : FilesR w w.heap.size A fs) (hl : fs.length <= 2147483647) (hcap : fs.length <= cap) (hfit : ∀ f ∈ fs, f.path.size <= 2147483647) (hT : Tabs w) :
 Calls Tryz.prog 25 #[.slice A fs.length cap] w fun e w' => BoolR e (fun r => r = true -> ∀ f ∈ fs, Lib.validD f.path.data.toList = true) /\ Below w.heap.size w w' := by
 have HA := Lib.hid hA
 have HT := Lib.hid hT
 have HF := Lib.hid hfit
 have HV := Lib.hid (fun (s : ByteArray) (W : World) (hs : s.size <= 2147483647) (h : Tabs W) => (Tryz.utf8_ValidString s W (by omega) h))
 clear hA hT hfit
 go_enter Tryz.func25, Tryz.ntmps25
 go_wp2_with (fail)
 go_loopw [7] (fun iv wr => ∃ t : Nat, t <= fs.length /\ iv = .int .i64 t /\ Hid (∀ f ∈ fs.take t, Lib.validD f.path.data.toList = true) /\ Below w.heap.size w wr) (fun iv _ => fs.length - (intOf iv).toNat)
 case atStart => exact ⟨0, Nat.zero_le _, rfl, by simp [Hid], Below.refl _ _⟩
 case round =>
  obtain ⟨t, ht, rfl, hno, hb⟩ := hrel
  by_cases hlt : t < fs.length
  . obtain ⟨x, hx⟩ : ∃ x, fs[t] = x := ⟨_, rfl⟩
    obtain ⟨b, o, rfl, hob, hcells⟩ := HA.out.keep hb (Nat.le_refl _) t hlt
    rw [hx] at hcells
    have hxs : x.path.size <= 2147483647 := HF.out x (by rw [<- hx]; exact List.getElem_mem _)
    have htk : fs.take (t + 1) = fs.take t ++ [x] := by rw [<- List.take_append_getElem hlt, hx]
    have HTK := Lib.hid htk
    clear htk hx
    have hbx : Below w.heap.size w (wr.alloc (.cells x.cells.toArray 37)) := hb.alloc hb.size _
    have HBX := Lib.hid hbx
    have HTX := Lib.hid (HT.out.later hbx)
    clear hbx
    go_wp2_with (first
     | (go_at_call 43; go_must (refine (HV.out x.path _ hxs HTX.out).mono ?_); rintro e w4 ⟨rfl, hx4⟩; have hb4 := HBX.out.trans (hx4.mono HBX.out.size))
     | (refine atLoad 37 ?_; go_must (refine wpList_loadFile rfl (.tmp 9) rfl rfl hcells ?_))
     | (refine atStore 37 ?_; go_must (refine wpList_storeNew rfl 37 _ _ rfl _ _ _ _ rfl rfl (by exact info37) (by rfl) (by rfl) ?_)))
    all_goals first
     | (go_ret
        exact ⟨BoolR.intro false (fun h => by cases h), hb4⟩)
     | (go_roundw
        case rel =>
         refine ⟨t + 1, hlt, by simp, ?_, hb4⟩
         unfold Hid; rw [HTK.out]
         intro y hy
         rcases List.mem_append.1 hy with h | h
         . exact hno.out y h
         . have : y = x := by simpa using h
           subst this
           first | assumption | simp_all
        case measure => simp [intOf]; omega)
  . have hte : t = fs.length := by omega
    subst hte
    go_wp2_with (fail)
    go_ret
    refine ⟨BoolR.intro true (fun _ => ?_), hb⟩
    have h := hno.out
    rw [List.take_length] at h
    exact h
theorem treeGoodX_any (cap : Nat) (A : Option Addr) (fs : List File) (w : World) (hA : FilesR w w.heap.size A fs) (hl : fs.length <= 2147483647) (hcap : fs.length <= cap) (hf : ∀ f ∈ fs, FitF f) :
 Calls Tryz.prog 7 #[.slice A fs.length cap, .bool false] w fun e w' => BoolR e (fun r => (r = true -> TreeG false fs /\ fs.length <= 40 /\ sumD fs <= 60000)) /\ Below w.heap.size w w' := by
 have hmm := @run_makeMap Tryz.prog
 have HA := Lib.hid hA; have HF := Lib.hid hf
 clear hA hf
 go_enter Tryz.func7, Tryz.ntmps7
 go_wp2_with (refine atInsert ?_; refine putS0 _ rfl _ _ _ rfl w.heap.size 0 (.map []) [] rfl (World.ownsMap_made _ _ _ _) MapS.nil (by decide) ⟨#[]⟩ true rfl rfl (Nat.zero_le _) ?_; intro w1 D1 hO1 hM1 hg1)
 clear hmm
 have hb1 : Below w.heap.size w w1 := ((Below.refl w.heap.size w).alloc (Nat.le_refl _) _).grown hg1 (by simp) (fun j hj => by cases hj; exact Nat.le_refl _)
 go_loopw [4, 6, 21] (fun rv nv iv wr => ∃ (t n : Nat) (D : DataW Unit), t <= fs.length /\ rv = .bool false /\ iv = .int .i64 t /\ nv = .int .i64 n /\ Hid (sumD (fs.take t) = n) /\ n <= t * 2147483647 /\ Hid (OwnS wr w.heap.size (t + 1) D) /\ Hid (MapS D (seenS (fs.take t))) /\ Hid (TreeG false (fs.take t)) /\ Below w.heap.size w wr /\ w.heap.size < wr.heap.size) (fun _ _ iv _ => fs.length - (intOf iv).toNat)
 case atStart => exact ⟨0, 0, D1, Nat.zero_le _, rfl, rfl, rfl, rfl, by omega, hO1, hM1, TreeG.nil false, hb1, World.ownsMap.lt hO1⟩
 case round =>
  obtain ⟨t, n, D, ht, rfl, rfl, rfl, hn, hnb, hO, hM, hT, hb, hws⟩ := hrel
  clear hb1 hg1 hO1 hM1
  by_cases hlt : t < fs.length
  . obtain ⟨x, hx⟩ : ∃ x, fs[t] = x := ⟨_, rfl⟩
    obtain ⟨b, o, rfl, hob, hcells⟩ := HA.out.keep hb (Nat.le_refl _) t hlt
    rw [hx] at hcells
    have htk : fs.take (t + 1) = fs.take t ++ [x] := by rw [<- List.take_append_getElem hlt, hx]
    obtain ⟨hfit1, hfit2, hfit3⟩ : FitF x := HF.out x (by rw [<- hx]; exact List.getElem_mem hlt)
    have HTK := Lib.hid htk
    obtain ⟨E, hE⟩ : ∃ E, Lib.Pa.els x.path.data.toList = E := ⟨_, rfl⟩
    have hPt : ∀ W : World, Calls Tryz.prog 22 #[.string x.path] W fun e w' => ∃ A co, e = .returned (.slice A E.length co) /\ w'.ownsRow W.heap.size 9 1 (.slice A E.length co) E.length (E.map SV) /\ Below W.heap.size W w' := fun W => by rw [<- hE]; exact parts_any x.path W hfit1
    have HP := Lib.hid hPt
    have hE1 : 0 < E.length := List.length_pos_iff.2 (by rw [<- hE]; exact els_ne _)
    have hE2 : E.length <= 2147483648 := by rw [<- hE]; have := els_length x.path.data.toList; rw [Array.length_toList] at this; exact Nat.le_trans this (Nat.succ_le_succ hfit1)
    have hEj : joinP E = x.path.data.toList := by rw [<- hE]; exact joinP_els _
    have HE := Lib.hid hE; have HEJ := Lib.hid hEj
    clear htk hx hE hPt hEj
    go_wp2_with (first
     | (go_at_call 22; go_must (refine (HP.out _).mono ?_); rintro e w4 ⟨A4, co4, rfl, hO4, hb4⟩)
     | (refine atLoad 37 ?_; go_must (refine wpList_loadFile rfl (.tmp 23) rfl rfl hcells ?_))
     | (refine atStore 37 ?_; go_must (refine wpList_storeNew rfl 37 _ _ rfl _ _ _ _ rfl rfl (by exact info37) (by rfl) (by rfl) ?_)))
    obtain ⟨g4, rfl, hg4a, hg4, hc4⟩ := row_addr hO4 hE1
    have hFile : w4.rangeAt wr.heap.size 0 x.cells := rangeAt_keep (rangeAt_alloc wr x.cells 37) hb4 (by simp)
    have f0 : w4.cell? ⟨wr.heap.size, 0, none⟩ = some (.string x.path) := hFile 0 _ rfl
    have f1 : w4.cell? ⟨wr.heap.size, 1, none⟩ = some (.bool x.dir) := hFile 1 _ rfl
    have f2 : w4.cell? ⟨wr.heap.size, 2, none⟩ = some (.string x.data) := hFile 2 _ rfl
    have f3 : w4.cell? ⟨wr.heap.size, 3, none⟩ = some (.string x.target) := hFile 3 _ rfl
    have hbA : Below wr.heap.size wr w4 := ((Below.refl wr.heap.size wr).alloc (Nat.le_refl _) _).trans (hb4.mono (by simp))
    obtain ⟨sd, hsd⟩ : ∃ s, x.data = s := ⟨_, rfl⟩
    obtain ⟨sg, hsg⟩ : ∃ s, x.target = s := ⟨_, rfl⟩
    rw [hsd] at f2
    rw [hsg] at f3
    have hsd2 : sd.size <= 2147483647 := by rw [<- hsd]; exact hfit2
    have HSD := Lib.hid hsd; have HSG := Lib.hid hsg
    obtain ⟨dv, hdv⟩ : ∃ d, x.dir = d := ⟨_, rfl⟩
    rw [hdv] at f1
    have HDV := Lib.hid hdv
    have hO' := OwnS.later hO.out hbA
    have HO := Lib.hid hO'
    have hbw4 : Below w.heap.size w w4 := hb.trans (hbA.mono hb.size)
    have hX4 : wr.heap.size < w4.heap.size := World.block_lt_of_cell? _ _ f0
    have HC4 := Lib.hid hc4
    clear hO hO' hFile hO4 hb4 hbA hcells hc4 hdv hsd hsg
    obtain ⟨wo, hwo⟩ : ∃ wo, wo = wr := ⟨_, rfl⟩
    subst hwo
    go_wp2_with (fail)
    go_loopw [4, 10, 30] (fun rv dv iv wr' => ∃ i : Nat, i <= E.length /\ iv = .int .i64 i /\ dv = .string (ofL (dirTo E i)) /\ rv = .bool false /\ Hid (∀ s ∈ E.take i, FreeName s) /\ wr' = w4) (fun _ _ iv _ => E.length - (intOf iv).toNat)
    case atStart => exact ⟨0, Nat.zero_le _, rfl, by rw [dirTo_zero], rfl, by simp [Hid], rfl⟩
    case round =>
     obtain ⟨i, hi, rfl, rfl, rfl, hno, hwq⟩ := hrel
     have hwq' := hwq.symm
     subst hwq'
     clear hwq
     by_cases hil : i < E.length
     . obtain ⟨s, hs⟩ : ∃ s, E[i]? = some s := ⟨_, List.getElem?_eq_getElem hil⟩
       obtain ⟨st, hst⟩ : ∃ st, ofL s = st := ⟨_, rfl⟩
       have hcs := HC4.out i (SV s) (by rw [List.getElem?_map, hs]; rfl)
       unfold SV at hcs
       rw [hst] at hcs
       have hstl : st.data.toList = s := by rw [<- hst]
       have hssz : st.size <= 2147483647 := by
        have h1 := joinP_mem_len E s (List.mem_of_getElem? hs)
        rw [HEJ.out, Array.length_toList] at h1
        rw [<- hst, size_ofL]; exact Nat.le_trans h1 hfit1
       have htki : E.take (i + 1) = E.take i ++ [s] := by
        rw [<- List.take_append_getElem hil]; congr 2
        rw [List.getElem?_eq_getElem hil] at hs; simpa using hs
       have HTI := Lib.hid htki; have HS := Lib.hid hs; have HSL := Lib.hid hstl
       obtain ⟨dt, hdt⟩ : ∃ dt, ofL (dirTo E i) = dt := ⟨_, rfl⟩
       have HDT := Lib.hid hdt
       have hdts : dt.size <= 2147483647 := by
        have := dirTo_len E _ HEJ.out i
        rw [Array.length_toList] at this
        rw [<- hdt, size_ofL]; exact Nat.le_trans this hfit1
       rw [hdt]
       clear htki hs hst hstl hdt
       go_wp2_with (go_at_call 24; go_must (refine (freeName_any st _ hssz).mono ?_); rintro e w5 ⟨⟨r, rfl, hr⟩, rfl⟩; have HR := Lib.hid hr; clear hr)
       all_goals first
        | (go_ret
           exact ⟨BoolR.intro false (fun h => by cases h), hbw4⟩)
        | (go_roundw
           case rel =>
            refine ⟨i + 1, hil, by simp, ?_, rfl, ?_, by first | rfl | trivial⟩
            . congr 1
              apply ba_ext
              rw [<- HDT.out]
              by_cases hlast : i < E.length - 1
              . by_cases h0 : i = 0
                . subst h0
                  rw [show ∀ l, (ofL l).data.toList = l from fun l => rfl, dirTo_first E s HS.out (by omega)]
                  first
                   | (exfalso; omega)
                   | simp [dirTo_zero, HSL.out]
                . rw [show ∀ l, (ofL l).data.toList = l from fun l => rfl, dirTo_next E i s HS.out (by omega) hlast]
                  first
                   | (exfalso; omega)
                   | simp [HSL.out]
              . rw [show ∀ l, (ofL l).data.toList = l from fun l => rfl, dirTo_last E (i + 1) (by omega)]
                first
                 | (exfalso; omega)
                 | simp [dirTo_last E i (by omega)]
            . unfold Hid; rw [HTI.out]
              intro y hy
              rcases List.mem_append.1 hy with h | h
              . exact hno.out y h
              . rw [List.mem_singleton] at h; subst h
                rw [<- HSL.out]; exact HR.out (by simp_all)
           case measure => simp [intOf]; omega)
     . have hte : i = E.length := by omega
       subst hte
       have hdl := dirTo_last E E.length (by omega)
       have hdirs := cut_dir x.path.data.toList
       rw [HE.out, <- hdl] at hdirs
       obtain ⟨dt, hdt⟩ : ∃ dt, ofL (dirTo E E.length) = dt := ⟨_, rfl⟩
       have hdts : dt.size <= maxLen := by
        rw [<- hdt, size_ofL]
        have := dirTo_len E _ HEJ.out E.length
        rw [Array.length_toList] at this
        exact Nat.le_trans (Nat.le_trans this hfit1) (by decide)
       have hdtl : dt.data.toList = (cutLast x.path.data.toList).1 := by rw [<- hdt, hdirs]
       have hps : x.path.size <= maxLen := Nat.le_trans hfit1 (by decide)
       obtain ⟨q1, hq1⟩ : ∃ q, ((seenS (fs.take t)).lookup dt.data.toList).getD false = q := ⟨_, rfl⟩
       obtain ⟨q2, hq2⟩ : ∃ q, ((seenS (fs.take t)).lookup dt.data.toList).isSome = q := ⟨_, rfl⟩
       obtain ⟨q3, hq3⟩ : ∃ q, ((seenS (fs.take t)).lookup x.path.data.toList).getD false = q := ⟨_, rfl⟩
       obtain ⟨q4, hq4⟩ : ∃ q, ((seenS (fs.take t)).lookup x.path.data.toList).isSome = q := ⟨_, rfl⟩
       have HQ1 := Lib.hid hq1; have HQ2 := Lib.hid hq2; have HQ3 := Lib.hid hq3; have HQ4 := Lib.hid hq4
       have HDL := Lib.hid hdtl; have HDS := Lib.hid hdts; have HPS := Lib.hid hps
       rw [hdt]
       clear hq1 hq2 hq3 hq4 hdtl hdts hdt hdl hdirs hps
       go_upto_region 22 with (first
        | (refine atLookup ?_; refine lookS_ok _ rfl (.tmp 73) (.tmp 74) rfl w.heap.size (t + 1) D (seenS (fs.take t)) rfl HO.out hM.out dt rfl HDS.out ?_; rw [HQ1.out, HQ2.out])
        | (refine atLookup ?_; refine lookS_ok _ rfl (.tmp 90) (.tmp 92) rfl w.heap.size (t + 1) D (seenS (fs.take t)) rfl HO.out hM.out x.path rfl HPS.out ?_; rw [HQ3.out, HQ4.out]))
       . go_ret
         exact ⟨BoolR.intro false (fun h => by cases h), hbw4⟩
       . cases q4 with
         | true =>
           go_wp2_with (fail)
           go_ret
           exact ⟨BoolR.intro false (fun h => by cases h), hbw4⟩
         | false =>
           cases dv with
           | true =>
             by_cases hs1 : sd.toList = []
             . by_cases hs2 : sg.toList = []
               . skip
                 go_upto_region 24 with (fail)
                 go_upto_region 25 with (refine atMapUpdate ?_; refine putS _ rfl (.tmp 130) (.tmp 132) (.tmp 134) rfl w.heap.size (t + 1) D (seenS (fs.take t)) rfl HO.out hM.out (by omega) x.path _ rfl rfl HPS.out ?_; intro w6 D6 hO6 hM6 hg6)
                 have f2' : w6.cell? ⟨wo.heap.size, 2, none⟩ = some (.string sd) := by
                  have e := hg6.block wo.heap.size hX4 (by intro h; injection h with h; omega)
                  have e2 : w6.cell? ⟨wo.heap.size, 2, none⟩ = w4.cell? ⟨wo.heap.size, 2, none⟩ := by simp only [World.cell?, e]
                  exact e2.trans f2
                 go_wp2_with (fail)
                 go_roundw
                 case rel =>
                  refine ⟨t + 1, n + sd.size, D6, hlt, rfl, by simp, ?_, ?_, ?_, hO6, ?_, ?_, hbw4.grown hg6 hbw4.size (fun j hj => by cases hj; exact Nat.le_refl _), Nat.lt_of_lt_of_le (Nat.lt_of_lt_of_le hws (Nat.le_of_lt hX4)) hg6.size⟩
                  . first | rfl | (congr 1; done) | (congr 1; rw [wrap_fit _ (by omega) (by omega)]; omega)
                  . unfold Hid; rw [HTK.out, sumD_snoc, hn.out, HSD.out]
                  . rw [HSD.out] at hfit2; omega
                  . unfold Hid; rw [HTK.out, seenS_snoc, show x.dir = _ from HDV.out]; exact hM6
                  . unfold Hid; rw [HTK.out]
                    have hno := hno.out
                    rw [List.take_length] at hno
                    refine TreeG.snoc hT.out (fun s hs => ?_) ?_ ?_ ?_ ?_ ?_
                    . rw [show Lib.Pa.els x.p = E from HE.out] at hs
                      unfold okPart; rw [if_neg (by decide)]; exact hno s hs
                    . rw [<- HDL.out]; exact seenS_dir (by rw [HQ1.out]; assumption)
                    . exact HQ4.out
                    . rw [show Lib.Pa.els x.p = E from HE.out]; omega
                    . intro _; rw [HSD.out, HSG.out]; exact ⟨size_nil hs1, size_nil hs2⟩
                    . intro hd; rw [HSG.out] at hd; exact absurd (size_nil hs2) hd
                 case measure => simp [intOf]; omega
               . go_wp2_with (fail)
                 go_ret
                 exact ⟨BoolR.intro false (fun h => by cases h), hbw4⟩
             . go_wp2_with (fail)
               go_ret
               exact ⟨BoolR.intro false (fun h => by cases h), hbw4⟩
           | false =>
             by_cases hs2 : sg.toList = []
             . skip
               go_upto_region 24 with (fail)
               go_upto_region 25 with (refine atMapUpdate ?_; refine putS _ rfl (.tmp 130) (.tmp 132) (.tmp 134) rfl w.heap.size (t + 1) D (seenS (fs.take t)) rfl HO.out hM.out (by omega) x.path _ rfl rfl HPS.out ?_; intro w6 D6 hO6 hM6 hg6)
               have f2' : w6.cell? ⟨wo.heap.size, 2, none⟩ = some (.string sd) := by
                have e := hg6.block wo.heap.size hX4 (by intro h; injection h with h; omega)
                have e2 : w6.cell? ⟨wo.heap.size, 2, none⟩ = w4.cell? ⟨wo.heap.size, 2, none⟩ := by simp only [World.cell?, e]
                exact e2.trans f2
               go_wp2_with (fail)
               go_roundw
               case rel =>
                refine ⟨t + 1, n + sd.size, D6, hlt, rfl, by simp, ?_, ?_, ?_, hO6, ?_, ?_, hbw4.grown hg6 hbw4.size (fun j hj => by cases hj; exact Nat.le_refl _), Nat.lt_of_lt_of_le (Nat.lt_of_lt_of_le hws (Nat.le_of_lt hX4)) hg6.size⟩
                . first | rfl | (congr 1; done) | (congr 1; rw [wrap_fit _ (by omega) (by omega)]; omega)
                . unfold Hid; rw [HTK.out, sumD_snoc, hn.out, HSD.out]
                . rw [HSD.out] at hfit2; omega
                . unfold Hid; rw [HTK.out, seenS_snoc, show x.dir = _ from HDV.out]; exact hM6
                . unfold Hid; rw [HTK.out]
                  have hno := hno.out
                  rw [List.take_length] at hno
                  refine TreeG.snoc hT.out (fun s hs => ?_) ?_ ?_ ?_ ?_ ?_
                  . rw [show Lib.Pa.els x.p = E from HE.out] at hs
                    unfold okPart; rw [if_neg (by decide)]; exact hno s hs
                  . rw [<- HDL.out]; exact seenS_dir (by rw [HQ1.out]; assumption)
                  . exact HQ4.out
                  . rw [show Lib.Pa.els x.p = E from HE.out]; omega
                  . intro hd; rw [HDV.out] at hd; cases hd
                  . intro hd; rw [HSG.out] at hd; exact absurd (size_nil hs2) hd
               case measure => simp [intOf]; omega
             . have hs2b : sg.toList.isEmpty = false := by
                cases h : sg.toList with
                | nil => exact absurd h hs2
                | cons _ _ => rfl
               by_cases hs1 : sd.toList = []
               . by_cases hg2 : sg.size <= 200
                 . skip
                   go_upto_region 24 with (fail)
                   go_upto_region 25 with (refine atMapUpdate ?_; refine putS _ rfl (.tmp 130) (.tmp 132) (.tmp 134) rfl w.heap.size (t + 1) D (seenS (fs.take t)) rfl HO.out hM.out (by omega) x.path _ rfl rfl HPS.out ?_; intro w6 D6 hO6 hM6 hg6)
                   have f2' : w6.cell? ⟨wo.heap.size, 2, none⟩ = some (.string sd) := by
                    have e := hg6.block wo.heap.size hX4 (by intro h; injection h with h; omega)
                    have e2 : w6.cell? ⟨wo.heap.size, 2, none⟩ = w4.cell? ⟨wo.heap.size, 2, none⟩ := by simp only [World.cell?, e]
                    exact e2.trans f2
                   go_wp2_with (fail)
                   go_roundw
                   case rel =>
                    refine ⟨t + 1, n + sd.size, D6, hlt, rfl, by simp, ?_, ?_, ?_, hO6, ?_, ?_, hbw4.grown hg6 hbw4.size (fun j hj => by cases hj; exact Nat.le_refl _), Nat.lt_of_lt_of_le (Nat.lt_of_lt_of_le hws (Nat.le_of_lt hX4)) hg6.size⟩
                    . first | rfl | (congr 1; done) | (congr 1; rw [wrap_fit _ (by omega) (by omega)]; omega)
                    . unfold Hid; rw [HTK.out, sumD_snoc, hn.out, HSD.out]
                    . rw [HSD.out] at hfit2; omega
                    . unfold Hid; rw [HTK.out, seenS_snoc, show x.dir = _ from HDV.out]; exact hM6
                    . unfold Hid; rw [HTK.out]
                      have hno := hno.out
                      rw [List.take_length] at hno
                      refine TreeG.snoc hT.out (fun s hs => ?_) ?_ ?_ ?_ ?_ ?_
                      . rw [show Lib.Pa.els x.p = E from HE.out] at hs
                        unfold okPart; rw [if_neg (by decide)]; exact hno s hs
                      . rw [<- HDL.out]; exact seenS_dir (by rw [HQ1.out]; assumption)
                      . exact HQ4.out
                      . rw [show Lib.Pa.els x.p = E from HE.out]; omega
                      . intro hd; rw [HDV.out] at hd; cases hd
                      . intro hd; rw [HSD.out, HSG.out]; exact ⟨size_nil hs1, rfl, by omega⟩
                   case measure => simp [intOf]; omega
                 . go_wp2_with (fail)
                   all_goals first
                    | (go_ret; exact ⟨BoolR.intro false (fun h => by cases h), hbw4⟩)
                    | (exfalso; simp_all; done)
               . go_wp2_with (fail)
                 all_goals first
                  | (go_ret; exact ⟨BoolR.intro false (fun h => by cases h), hbw4⟩)
                  | (exfalso; simp_all; done)
       . go_ret
         exact ⟨BoolR.intro false (fun h => by cases h), hbw4⟩
       . go_ret
         exact ⟨BoolR.intro false (fun h => by cases h), hbw4⟩
  . have hte : t = fs.length := by omega
    subst hte
    have hn := hn.out
    rw [List.take_length] at hn
    have HN := Lib.hid hn
    clear hn
    go_wp2_with (fail)
    all_goals
     go_ret
     refine ⟨BoolR.intro _ (fun hr => ?_), hb⟩
     have hT := hT.out
     rw [List.take_length] at hT
     refine ⟨hT, ?_, ?_⟩
     . first | (simp_all; done) | omega
     . rw [HN.out]; first | (simp at hr; omega) | (simp_all; done)
structure RockName (f : File) : Prop where
 back : (92 : UInt8) ∉ f.last
 head : f.dir = false -> f.last.head? ≠ some 46
 last' : f.dir = false -> f.last.getLast? ≠ some 46
 ver : f.dir = false -> Lib.hasSuffix f.last [59, 49] = false
theorem rockName_of (x : File) (st : ByteArray) (hl : st.data.toList = x.last) (hb : (92 : UInt8) ∉ x.last) (hpos : 0 < st.size) (h0 : ¬ (st[0].toNat : Int) = 46) (h1 : ¬ (st[st.size - 1].toNat : Int) = 46) (h2 : (2 : Int) <= st.size -> ((st.extract (st.size - 2) st.size).toList == [59, 49]) = false) : RockName x := by
 have hsl : st.data.toList.length = st.size := by rw [Array.length_toList]; rfl
 have n46 : ∀ c : UInt8, ¬ (c.toNat : Int) = 46 -> c ≠ 46 := by
  rintro c hc rfl; exact hc rfl
 refine ⟨hb, fun _ => ?_, fun _ => ?_, fun _ => ?_⟩
 . rw [<- hl, List.head?_eq_getElem?, List.getElem?_eq_getElem (by omega)]
   intro e
   exact n46 _ h0 (Option.some.inj e)
 . rw [<- hl, List.getLast?_eq_getElem?, List.getElem?_eq_getElem (by omega)]
   intro e
   have e := Option.some.inj e
   refine n46 _ h1 ?_
   simp only [hsl] at e
   exact e
 . cases hs : Lib.hasSuffix x.last [59, 49] with
   | false => rfl
   | true =>
     exfalso
     have h3 : ([59, 49] : List UInt8) <:+ x.last := by simpa [Lib.hasSuffix] using hs
     obtain ⟨t, ht⟩ := h3
     rw [<- hl] at ht
     have hln : t.length + 2 = st.size := by rw [<- hsl, <- ht]; simp
     have h4 := h2 (by omega)
     rw [Lib.toList_data, Lib.extract_to_end, <- ht, show st.size - 2 = t.length by omega, List.drop_left] at h4
     exact absurd h4 (by decide)
theorem rockName_nil (x : File) (hl : x.last = []) : RockName x := by
 refine ⟨?_, fun _ => ?_, fun _ => ?_, fun _ => ?_⟩ <;> rw [hl]
 . simp
 . simp
 . simp
 . rfl
theorem rockName_dir (x : File) (hb : (92 : UInt8) ∉ x.last) (hd : x.dir = true) : RockName x := by
 refine ⟨hb, fun h => ?_, fun h => ?_, fun h => ?_⟩ <;> rw [hd] at h <;> cases h
theorem rockNames_any (cap : Nat) (A : Option Addr) (fs : List File) (w : World) (hA : FilesR w w.heap.size A fs) (hl : fs.length <= 2147483647) (hcap : fs.length <= cap) (hf : ∀ f ∈ fs, f.path.size <= 2147483647) (hT : Tabs w) :
 Calls Tryz.prog 8 #[.slice A fs.length cap] w fun e w' => BoolR e (fun r => (r = true -> (∀ f ∈ fs, RockName f) /\ ∀ f ∈ fs, Lib.validD f.path.data.toList = true)) /\ Below w.heap.size w w' := by
 have HV := Lib.hid (fun (W : World) (hb : Below w.heap.size w W) => validNames_any cap A fs W (fun i hi => by obtain ⟨b, o, e, hlt, hr⟩ := hA.keep hb (Nat.le_refl _) i hi; exact ⟨b, o, e, Nat.lt_of_lt_of_le hlt hb.size, hr⟩) hl hcap hf (hT.later hb))
 have HA := Lib.hid hA; have HF := Lib.hid hf
 clear hA hf hT
 go_enter Tryz.func8, Tryz.ntmps8
 go_wp2_with (fail)
 go_loopw [2, 10] (fun rv iv wr => ∃ (t : Nat), t <= fs.length /\ iv = .int .i64 t /\ rv = .bool false /\ Hid (∀ f ∈ fs.take t, RockName f) /\ Below w.heap.size w wr) (fun _ iv _ => fs.length - (intOf iv).toNat)
 case atStart => exact ⟨0, Nat.zero_le _, rfl, rfl, by simp [Hid], Below.refl _ _⟩
 case round =>
  obtain ⟨t, ht, rfl, rfl, hno, hb⟩ := hrel
  by_cases hlt : t < fs.length
  . obtain ⟨x, hx⟩ : ∃ x, fs[t] = x := ⟨_, rfl⟩
    obtain ⟨b, o, rfl, hob, hcells⟩ := HA.out.keep hb (Nat.le_refl _) t hlt
    rw [hx] at hcells
    have htk : fs.take (t + 1) = fs.take t ++ [x] := by rw [<- List.take_append_getElem hlt, hx]
    have hfit1 : x.path.size <= 2147483647 := HF.out x (by rw [<- hx]; exact List.getElem_mem hlt)
    have HTK := Lib.hid htk
    obtain ⟨qs, s, hE, hcut⟩ := els_cut x.path.data.toList
    obtain ⟨m, hm⟩ : ∃ m, qs.length = m := ⟨_, rfl⟩
    have hEl : (Lib.Pa.els x.path.data.toList).length = m + 1 := by rw [hE, List.length_append, hm]; rfl
    have hm2 : m <= 2147483647 := by have := els_length x.path.data.toList; rw [hEl, Array.length_toList] at this; exact Nat.le_trans (Nat.le_of_succ_le_succ this) hfit1
    have hPt : ∀ W : World, Calls Tryz.prog 22 #[.string x.path] W fun e w' => ∃ g co, e = .returned (.slice (some ⟨g, 0, none⟩) (m + 1 : Nat) co) /\ w'.cell? ⟨g, m, none⟩ = some (SV s) /\ Below W.heap.size W w' := fun W => by
     refine (parts_any x.path W (by omega)).mono fun e w' h => ?_
     obtain ⟨A', co, h1, h2, h3⟩ := h
     rw [hEl] at h1 h2
     obtain ⟨g, rfl, _, _, hc⟩ := row_addr h2 (Nat.succ_pos _)
     exact ⟨g, co, h1, hc m (SV s) (by rw [List.getElem?_map, hE, List.getElem?_append_right (by omega), <- hm, Nat.sub_self]; rfl), h3⟩
    have HP := Lib.hid hPt
    obtain ⟨st, hst⟩ : ∃ st, ofL s = st := ⟨_, rfl⟩
    have hlast : st.data.toList = x.last := by rw [<- hst]; unfold File.last; rw [show x.p = x.path.data.toList from rfl, hcut]
    have hsts : st.size <= 2147483647 := by
     have h1 := joinP_mem_len (Lib.Pa.els x.path.data.toList) s (by rw [hE]; simp)
     rw [joinP_els, Array.length_toList] at h1
     rw [<- hst, size_ofL]; exact Nat.le_trans h1 hfit1
    unfold SV at HP
    rw [hst] at HP
    have HL := Lib.hid hlast
    clear htk hx hE hPt hcut hst hlast hEl hm
    go_upto_region 6 with (first
     | (go_at_call 22; go_must (refine (HP.out _).mono ?_); rintro e w4 ⟨g4, co4, rfl, hc4, hb4⟩; have hFile : w4.rangeAt wr.heap.size 0 x.cells := rangeAt_keep (rangeAt_alloc wr x.cells 37) hb4 (by simp); have f1 : w4.cell? ⟨wr.heap.size, 1, none⟩ = some (.bool x.dir) := hFile 1 _ rfl; have hbA : Below wr.heap.size wr w4 := ((Below.refl wr.heap.size wr).alloc (Nat.le_refl _) _).trans (hb4.mono (by simp)); have hbw4 : Below w.heap.size w w4 := hb.trans (hbA.mono hb.size); clear hFile hb4 hbA hcells)
     | (refine atLoad 37 ?_; go_must (refine wpList_loadFile rfl (.tmp 12) rfl rfl hcells ?_))
     | (refine atStore 37 ?_; go_must (refine wpList_storeNew rfl 37 _ _ rfl _ _ _ _ rfl rfl (by exact info37) (by rfl) (by rfl) ?_)))
    obtain ⟨dv, hdv⟩ : ∃ d, x.dir = d := ⟨_, rfl⟩
    rw [hdv] at f1
    have HDV := Lib.hid hdv
    have hsl : st.data.toList.length = st.size := by rw [Array.length_toList]; rfl
    have HSZ := Lib.hid hsl
    clear hdv hsl hc4
    go_wp2_with (fail)
    obtain ⟨wo, hwo⟩ : ∃ wo, wo = wr := ⟨_, rfl⟩
    subst hwo
    go_loopw [2, 25] (fun rv jv wr' => ∃ j : Nat, j <= st.size /\ jv = .int .i64 j /\ rv = .bool false /\ Hid ((92 : UInt8) ∉ st.data.toList.take j) /\ wr' = w4) (fun _ jv _ => st.size - (intOf jv).toNat)
    case atStart => exact ⟨0, Nat.zero_le _, rfl, rfl, by simp [Hid], rfl⟩
    case round =>
     obtain ⟨j, hj, rfl, rfl, hZ, hwz⟩ := hrel
     have hwz' := hwz.symm
     subst hwz'
     clear hwz
     by_cases hjl : j < st.size
     . have hgt : st.data.toList[j]? = some st[j] := by
        rw [List.getElem?_eq_getElem (by rw [HSZ.out]; omega)]
        rfl
       have HG := Lib.hid hgt
       clear hgt
       go_wp2_with (fail)
       all_goals first
        | (go_ret
           exact ⟨BoolR.intro false (fun h => by cases h), hbw4⟩)
        | (go_roundw
           case rel =>
            have hz := ‹((st[j].toNat : Int) == 92) = false›
            refine ⟨j + 1, hjl, by simp, rfl, ?_, by first | rfl | trivial⟩
            unfold Hid
            rw [List.take_add_one, HG.out]
            intro hb
            rcases List.mem_append.1 hb with h' | h'
            . exact hZ.out h'
            . simp at h'; rw [<- h'] at hz; exact absurd hz (by decide)
           case measure => simp [intOf]; omega)
     . have hje : j = st.size := by omega
       subst hje
       have hback : Hid ((92 : UInt8) ∉ x.last) := by
        unfold Hid; have := hZ.out; rw [<- HL.out, <- HSZ.out, List.take_length] at *; exact this
       have hsn : Hid (RockName x -> ∀ f ∈ fs.take (t + 1), RockName f) := by
        intro hx f hf
        rw [HTK.out] at hf
        rcases List.mem_append.1 hf with hf | hf
        . exact hno.out f hf
        . rw [List.mem_singleton] at hf; subst hf; exact hx
       by_cases he : st.toList.isEmpty = true
       . have hRx : RockName x := rockName_nil x (by rw [<- HL.out]; rw [Lib.toList_data] at he; exact List.isEmpty_iff.1 he)
         have HRX := Lib.hid (hsn.out hRx)
         clear hj hjl hZ hRx hsn hback
         go_upto_region 13 with (fail)
         go_roundw
         case rel => exact ⟨t + 1, hlt, by simp, HRX⟩
         case measure => simp [intOf]; omega
       . have heb : st.toList.isEmpty = false := by simpa using he
         have hpos : 0 < st.size := by
          rcases Nat.eq_zero_or_pos st.size with h | h
          . exfalso; apply he
            have hn : st.data.toList = [] := List.eq_nil_of_length_eq_zero (by rw [HSZ.out]; exact h)
            rw [Lib.toList_data, hn]; rfl
          . exact h
         cases dv with
         | true =>
           have HRX := Lib.hid (hsn.out (rockName_dir x hback.out HDV.out))
           clear hj hjl hZ hsn hback he
           go_upto_region 13 with (fail)
           go_roundw
           case rel => exact ⟨t + 1, hlt, by simp, HRX⟩
           case measure => simp [intOf]; omega
         | false =>
           clear hj hjl hZ he
           have hp1 : (0 : Int) <= (st.size : Int) - 1 := by omega
           go_upto_region 13 with (fail)
           all_goals first
            | (go_wp2_with (fail)
               go_ret
               exact ⟨BoolR.intro false (fun h => by cases h), hbw4⟩)
            | skip
           . rename_i a4 a3 a2 a1 a0
             exact ⟨⟨t + 1, hlt, by simp, Lib.hid (hsn.out (rockName_of x st HL.out hback.out hpos a4 a2 (fun _ => a0.2)))⟩, by simp [intOf]; omega⟩
           . rename_i a4 a3 a2 a1 a0
             exact ⟨⟨t + 1, hlt, by simp, Lib.hid (hsn.out (rockName_of x st HL.out hback.out hpos a4 a2 (fun h => absurd h (by omega))))⟩, by simp [intOf]; omega⟩
  . have hte : t = fs.length := by omega
    subst hte
    have hall := hno.out
    rw [List.take_length] at hall
    have HALL := Lib.hid hall
    clear hno hlt ht hall
    go_wp2_with (first
     | (go_at_call 25; go_must (refine (HV.out _ hb).mono ?_); rintro e w9 ⟨⟨r, rfl, hr⟩, hb9⟩; have HR := Lib.hid hr; clear hr))
    go_ret
    exact ⟨BoolR.intro r (fun h => ⟨HALL.out, HR.out h⟩), hb.trans (hb9.mono hb.size)⟩
end Go.Proofs.YtilgpaeeleknhaaGreatDoor
