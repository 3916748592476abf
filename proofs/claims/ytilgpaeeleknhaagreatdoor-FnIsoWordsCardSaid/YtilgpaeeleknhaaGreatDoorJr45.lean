/- A part of the proof of laws.FnIsoRock (see the last text). -/
import Derived.Test.YtilgpaeeleknhaaGreatDoorJr44
import Derived.Test.YtilgpaeeleknhaaGreatDoorJr33
set_option linter.unusedSimpArgs false
set_option linter.unusedVariables false
set_option maxRecDepth 1000000
set_option maxHeartbeats 8000000
namespace Go.Proofs.YtilgpaeeleknhaaGreatDoor
open Go Go.RowKit
def tellX (rs : List RX) : List RX := rs.filter fun x => !(x.r.self || x.r.par)
theorem tellX_snoc_no (rs : List RX) (x : RX) (h : (x.r.self || x.r.par) = true) : tellX (rs ++ [x]) = tellX rs := by
 unfold tellX; rw [List.filter_append, List.filter_cons, h]; simp
theorem tellX_snoc_yes (rs : List RX) (x : RX) (h : (x.r.self || x.r.par) = false) : tellX (rs ++ [x]) = tellX rs ++ [x] := by
 unfold tellX; rw [List.filter_append, List.filter_cons, h]; simp
def ListX (w w' : World) (F : Nat) (rs : List RX) (e : Ending) : Prop := ∃ A co bs, e = .returned (.tuple #[.slice A rs.length co, .nilIface]) /\ w'.ownsRow w.heap.size 133 1 (.slice A rs.length co) rs.length (bs.map IB) /\ EntsR w' bs rs (PB F) /\ (∀ b ∈ bs, w.heap.size <= b) /\ Below w.heap.size w w'
theorem readDirX_any (F : Nat) (p : ByteArray) (rs : List RX) (w : World) (hF : F < w.heap.size) (hw : w.cell? ⟨F, 1, none⟩ = some (.string ⟨#[]⟩)) (hrl : rs.length <= 1000)
 (hv : Calls Tryz.prog 82 #[.string p] w fun e w' => e = .returned .nilIface /\ Below w.heap.size w w')
 (hr : ∀ W, Below w.heap.size w W -> Calls Tryz.prog 85 #[PB F, .string p] W fun e w' => DirX W w' F rs e) :
 Calls Tryz.prog 63 #[PB F, .string p] w fun e w' => ListX w w' F (tellX rs) e := by
 have HV := Lib.hid hv; have HR := Lib.hid hr
 clear hv hr
 go_enter Tryz.func63, Tryz.ntmps63
 go_wp2_with (first
  | (go_at_call 85; refine (HR.out _ hb2).mono ?_; rintro e w5 ⟨A5, c5, bs, rfl, hO5, hE5, hB5, hb5⟩; have HO5 := Lib.hid hO5; have HE5 := Lib.hid hE5; have HB5 := Lib.hid hB5; clear hO5 hE5 hB5)
  | (go_at_call 82; refine HV.out.mono ?_; rintro e w2 ⟨rfl, hb2⟩; have f1 := (hb2.cell (p := ⟨F, 1, none⟩) hF).trans hw))
 have hbw5 : Below w.heap.size w w5 := hb2.trans (hb5.mono hb2.size)
 go_loopw [7, 56] (fun ov iv wr => ∃ (t m : Nat) (A : Option Addr) (co : Nat) (cs : List Nat), t <= rs.length /\ m <= t /\ iv = .int .i64 t /\ ov = .slice A m co /\ Hid (cs.length = m) /\ Hid (wr.ownsRow w5.heap.size 133 1 (.slice A m co) m (cs.map IB)) /\ Hid (EntsR wr cs (tellX (rs.take t)) (PB F)) /\ Hid (∀ b ∈ cs, w.heap.size <= b) /\ Below w5.heap.size w5 wr) (fun _ iv _ => rs.length - (intOf iv).toNat)
 case atStart => exact ⟨0, 0, none, 0, [], Nat.zero_le _, Nat.le_refl _, rfl, rfl, rfl, World.ownsRow_nil _ _ _ _, EntsR.nil _ _, by simp [Hid], Below.refl _ _⟩
 case round =>
  obtain ⟨t, m, A, co, cs, ht, hm, rfl, rfl, hcl, hO, hE, hB, hb⟩ := hrel
  by_cases hlt : t < rs.length
  . obtain ⟨x, hx⟩ : ∃ x, rs[t]? = some x := ⟨_, List.getElem?_eq_getElem hlt⟩
    obtain ⟨g5, rfl, _, hg5, hc5⟩ := row_addr HO5.out (by omega)
    have htb : t < bs.length := by rw [HE5.out.1]; exact hlt
    obtain ⟨bt, hbt⟩ : ∃ bt, bs[t]? = some bt := ⟨_, List.getElem?_eq_getElem htb⟩
    have hp1 := hc5 t (PB bt) (by rw [List.getElem?_map, hbt]; rfl)
    rw [<- hb.cell (p := ⟨g5, t, none⟩) hg5] at hp1
    have hEt := (HE5.out.2 t bt x hbt hx).later hb
    have htk : rs.take (t + 1) = rs.take t ++ [x] := by
     rw [<- List.take_append_getElem hlt]; congr 2
     rw [List.getElem?_eq_getElem hlt] at hx; simpa using hx
    have y12 := hEt.cells.self
    have y13 := hEt.cells.par
    have hbw : w.heap.size <= bt := Nat.le_trans hb2.size (HB5.out bt (List.mem_of_getElem? hbt))
    have hbr := hb.size
    have HTK := Lib.hid htk; have HET := Lib.hid hEt; have HBW := Lib.hid hbw
    clear htk hx hEt hbt hc5 hbw
    cases h1 : x.r.self with
    | true =>
      rw [h1] at y12
      go_wp2_with (fail)
      go_roundw
      case rel => exact ⟨t + 1, m, A, co, cs, hlt, by omega, by simp, rfl, hcl, hO, by unfold Hid; rw [HTK.out, tellX_snoc_no _ _ (by rw [h1]; rfl)]; exact hE, hB, hb⟩
      case measure => simp [intOf]; omega
    | false =>
      rw [h1] at y12
      cases h2 : x.r.par with
      | true =>
        rw [h2] at y13
        go_wp2_with (fail)
        go_roundw
        case rel => exact ⟨t + 1, m, A, co, cs, hlt, by omega, by simp, rfl, hcl, hO, by unfold Hid; rw [HTK.out, tellX_snoc_no _ _ (by rw [h1, h2]; rfl)]; exact hE, hB, hb⟩
        case measure => simp [intOf]; omega
      | false =>
        rw [h2] at y13
        go_wp2_with (at_builtin; refine asList rfl fun KK hKK => ?_; refine go_appV (w := wr) under130 info133 (by decide) (.tmp 70) (.tmp 73) rfl w5.heap.size wr.heap.size m A co (cs.map IB) (IB bt) (by rw [List.length_map]; exact hcl.out.symm) rfl hO.out ((Below.refl _ _).alloc (Nat.le_refl _) _) (by show (wr.heap.push _)[wr.heap.size]? = _; rw [Array.getElem?_push_size]) rfl rfl rfl (by omega) hbr ?_; intro A6 c6 w6 hO6 hb6 hg6; refine hKK _ _ ?_; clear hKK KK)
        go_roundw
        case rel =>
         refine ⟨t + 1, m + 1, A6, c6, cs ++ [bt], hlt, by omega, by simp, rfl, ?_, ?_, ?_, ?_, hb.trans hb6⟩
         . unfold Hid; rw [List.length_append, hcl.out]; rfl
         . unfold Hid; rw [List.map_append]; exact hO6
         . unfold Hid; rw [HTK.out, tellX_snoc_yes _ _ (by rw [h1, h2]; rfl)]
           exact EntsR.grown (hE.out.snoc HET.out) hO.out (by decide) (by decide) hg6
         . unfold Hid
           intro y hy
           rcases List.mem_append.1 hy with h | h
           . exact hB.out y h
           . rw [List.mem_singleton] at h; subst h; exact HBW.out
        case measure => simp [intOf]; omega
  . have hte : t = rs.length := by omega
    subst hte
    go_wp2_with (fail)
    go_ret2
    have hE := hE.out
    rw [List.take_length] at hE
    have hml : (tellX rs).length = m := by rw [<- hE.1, hcl.out]
    refine ⟨A, co, cs, by rw [hml]; rfl, ?_, hE, hB.out, hbw5.trans (hb.mono hbw5.size)⟩
    rw [hml]; exact row_lower hO.out hbw5.size
theorem statX_any (F M D : Nat) (img : List UInt8) (p d : ByteArray) (bn : List UInt8) (rs : List RX) (y : RX) (w : World) (hF : FsR w F M D true img) (hp : p.data.toList ≠ [46]) (hrl : rs.length <= 1000) (hnm : ∀ x ∈ rs, ∃ f, Told f x) (hy : y ∈ rs) (hyn : y.nm = bn) (hyu : ∀ x ∈ rs, x.nm = bn -> x = y)
 (hd : ∀ W, Calls Tryz.prog 86 #[.string p] W fun e w' => e = .returned (.string d) /\ Below W.heap.size W w')
 (hb : ∀ W, Calls Tryz.prog 87 #[.string p] W fun e w' => e = .returned (.string (ofL bn)) /\ w' = W)
 (hr : ∀ W, Below w.heap.size w W -> Calls Tryz.prog 63 #[PB F, .string d] W fun e w' => ListX W w' F rs e) :
 Calls Tryz.prog 64 #[PB F, .string p] w fun e w' => ∃ b, e = .returned (.tuple #[IB b, .nilIface]) /\ EntX w' b y.r true y.fo (PB F) /\ Below w.heap.size w w' := by
 have HD := Lib.hid hd; have HB := Lib.hid hb; have HR := Lib.hid hr; have HN := Lib.hid hnm
 have HY := Lib.hid hy; have HYN := Lib.hid hyn; have HYU := Lib.hid hyu
 have KF : ∀ W, Below w.heap.size w W -> FsR W F M D true img := fun W h => hF.later h
 have HK := Lib.hid KF
 have hpb : (p.toList == [46]) = false := by rw [Lib.toList_data]; simpa using hp
 clear hd hb hr hnm KF hF hp hy hyn hyu
 go_enter Tryz.func64, Tryz.ntmps64
 go_wp2_with (first
  | (go_at_call 63; refine (HR.out _ hb2).mono ?_; rintro e w5 ⟨A5, c5, bs, rfl, hO5, hE5, hB5, hb5⟩; have HO5 := Lib.hid hO5; have HE5 := Lib.hid hE5; clear hO5 hE5 hB5)
  | (go_at_call 87; refine (HB.out _).mono ?_; rintro e w3 ⟨rfl, rfl⟩)
  | (go_at_call 86; refine (HD.out _).mono ?_; rintro e w2 ⟨rfl, hb2⟩))
 have hbw5 : Below w.heap.size w w5 := hb2.trans (hb5.mono hb2.size)
 go_loopw [36] (fun iv wr => ∃ t : Nat, t <= rs.length /\ iv = .int .i64 t /\ Hid (∀ x ∈ rs.take t, x.nm ≠ bn) /\ Below w5.heap.size w5 wr) (fun iv _ => rs.length - (intOf iv).toNat)
 case atStart => exact ⟨0, Nat.zero_le _, rfl, by simp [Hid], Below.refl _ _⟩
 case round =>
  obtain ⟨t, ht, rfl, hno, hbr⟩ := hrel
  have hbwr : Below w.heap.size w wr := hbw5.trans (hbr.mono hbw5.size)
  by_cases hlt : t < rs.length
  . obtain ⟨x, hx⟩ : ∃ x, rs[t]? = some x := ⟨_, List.getElem?_eq_getElem hlt⟩
    obtain ⟨g5, rfl, _, hg5, hc5⟩ := row_addr HO5.out (by omega)
    have htb : t < bs.length := by rw [HE5.out.1]; exact hlt
    obtain ⟨bt, hbt⟩ : ∃ bt, bs[t]? = some bt := ⟨_, List.getElem?_eq_getElem htb⟩
    have hp1 := (hbr.cell (p := ⟨g5, t, none⟩) hg5).trans (hc5 t (IB bt) (by rw [List.getElem?_map, hbt]; rfl))
    have hEt := (HE5.out.2 t bt x hbt hx).later hbr
    have m1 := method_Name ⟨bt, 0, none⟩
    have m2 := method_Info ⟨bt, 0, none⟩
    have htk : rs.take (t + 1) = rs.take t ++ [x] := by
     rw [<- List.take_append_getElem hlt]; congr 2
     rw [List.getElem?_eq_getElem hlt] at hx; simpa using hx
    have hxm := List.mem_of_getElem? hx
    obtain ⟨f, hns⟩ := HN.out x hxm
    have HNS := Lib.hid hns
    clear hns
    have HTK := Lib.hid htk; have HET := Lib.hid hEt; have HX := Lib.hid hx
    clear htk hx hEt hbt hc5
    by_cases hq : x.nm = bn
    . have hqb : (x.nm == bn) = true := by simpa using hq
      have HQ := Lib.hid hq
      clear hq
      go_wp2_with (first
       | (go_at_call 186; refine (info_any _ bt).mono ?_; rintro e w7 ⟨rfl, hw7⟩; have hw7' := hw7.symm; subst hw7')
       | (go_at_call 89; refine (nameX_any _ bt F M D img f x HET.out (HK.out _ hbwr) HNS.out).mono ?_; rintro e w6 ⟨rfl, hb6⟩))
      go_ret2
      have hxy := HYU.out x hxm HQ.out
      rw [<- hxy]
      exact ⟨bt, rfl, HET.out.later hb6, hbwr.trans (hb6.mono hbwr.size)⟩
    . have hqb : (x.nm == bn) = false := by simpa using hq
      go_wp2_with (first
       | (go_at_call 89; refine (nameX_any _ bt F M D img f x HET.out (HK.out _ hbwr) HNS.out).mono ?_; rintro e w6 ⟨rfl, hb6⟩))
      go_roundw
      case rel =>
       refine ⟨t + 1, hlt, by simp, ?_, hbr.trans (hb6.mono hbr.size)⟩
       unfold Hid; rw [HTK.out]
       intro y hy
       rcases List.mem_append.1 hy with h | h
       . exact hno.out y h
       . rw [List.mem_singleton] at h; subst h; exact hq
      case measure => simp [intOf]; omega
  . exfalso
    have hte : t = rs.length := by omega
    subst hte
    have hno := hno.out
    rw [List.take_length] at hno
    exact hno y HY.out HYN.out
theorem DirAt.keep {w w' : World} {b E S F B : Nat} (h : DirAt w b E S F) (hb : Below B w w') (hB : b < B) : DirAt w' b E S F :=
 ⟨(hb.cell (p := ⟨b, 1, none⟩) hB).trans h.e, (hb.cell (p := ⟨b, 2, none⟩) hB).trans h.s, (hb.cell (p := ⟨b, 16, none⟩) hB).trans h.fs⟩
theorem EntX.dirAt {w : World} {b F : Nat} {x : RX} (h : EntX w b x.r true x.fo (PB F)) : DirAt w b x.r.e x.r.s F := ⟨h.cells.e, h.cells.s, h.cells.fs⟩
def openX (bn : List UInt8) (x : RX) : Bool := !(x.r.self || x.r.par) && decide (x.nm = bn)
theorem openX_any (F M D : Nat) (img : List UInt8) (p d : ByteArray) (bn : List UInt8) (rs : List RX) (r : RX) (w : World) (hF : FsR w F M D true img) (hwk : w.cell? ⟨F, 1, none⟩ = some (.string ⟨#[]⟩)) (hp : p.data.toList ≠ [46]) (hrl : rs.length <= 1000) (hnm : ∀ x ∈ rs, x.r.self = false -> x.r.par = false -> ∃ f, Told f x) (hfind : rs.find? (openX bn) = some r) (hd0 : r.r.d = false)
 (hv : Calls Tryz.prog 82 #[.string p] w fun e w' => e = .returned .nilIface /\ Below w.heap.size w w')
 (hd : ∀ W, Calls Tryz.prog 86 #[.string p] W fun e w' => e = .returned (.string d) /\ Below W.heap.size W w')
 (hb : ∀ W, Calls Tryz.prog 87 #[.string p] W fun e w' => e = .returned (.string (ofL bn)) /\ w' = W)
 (hr : ∀ W, Below w.heap.size w W -> Calls Tryz.prog 85 #[PB F, .string d] W fun e w' => DirX W w' F rs e) :
 Calls Tryz.prog 66 #[PB F, .string p] w fun e w' => ∃ X b, e = .returned (.tuple #[.iface 113 (PB X), .nilIface]) /\ w'.heap[X]? = some (.cells (fileC b 0 false).toArray 118) /\ EntX w' b r.r true r.fo (PB F) /\ w.heap.size <= X /\ Below w.heap.size w w' := by
 have HV := Lib.hid hv; have HD := Lib.hid hd; have HB := Lib.hid hb; have HR := Lib.hid hr; have HN := Lib.hid hnm; have HFI := Lib.hid hfind; have HD0 := Lib.hid hd0
 have hFl := hF.lt
 have HK := Lib.hid (fun W (h : Below w.heap.size w W) => hF.later h)
 have HW := Lib.hid hwk
 have hpb : (p.toList == [46]) = false := by rw [Lib.toList_data]; simpa using hp
 clear hv hd hb hr hnm hF hp hfind hd0 hwk
 go_enter Tryz.func66, Tryz.ntmps66
 go_wp2_with (first
  | (go_at_call 85; go_must (refine (HR.out _ hb3).mono ?_); rintro e w5 ⟨A5, c5, bs, rfl, hO5, hE5, hB5, hb5⟩; have HO5 := Lib.hid hO5; have HE5 := Lib.hid hE5; clear hO5 hE5 hB5)
  | (go_at_call 87; go_must (refine (HB.out _).mono ?_); rintro e w4 ⟨rfl, h4⟩; have h4' := h4.symm; subst h4')
  | (go_at_call 86; go_must (refine (HD.out _).mono ?_); rintro e w3 ⟨rfl, hx3⟩; have hb3 := hb2.trans (hx3.mono hb2.size))
  | (go_at_call 82; go_must (refine HV.out.mono ?_); rintro e w2 ⟨rfl, hb2⟩; have f1 := (hb2.cell (p := ⟨F, 1, none⟩) hFl).trans HW.out))
 have hbw5 : Below w.heap.size w w5 := hb3.trans (hb5.mono hb3.size)
 clear hb5 hx3 f1
 go_loopw [67] (fun iv wr => ∃ t : Nat, t <= rs.length /\ iv = .int .i64 t /\ Hid (∀ x ∈ rs.take t, openX bn x = false) /\ Below w5.heap.size w5 wr) (fun iv _ => rs.length - (intOf iv).toNat)
 case atStart => exact ⟨0, Nat.zero_le _, rfl, by simp [Hid], Below.refl _ _⟩
 case round =>
  obtain ⟨t, ht, rfl, hno, hbr⟩ := hrel
  have hbwr : Below w.heap.size w wr := hbw5.trans (hbr.mono hbw5.size)
  by_cases hlt : t < rs.length
  . obtain ⟨x, hx⟩ : ∃ x, rs[t]? = some x := ⟨_, List.getElem?_eq_getElem hlt⟩
    obtain ⟨g5, rfl, _, hg5, hc5⟩ := row_addr HO5.out (by omega)
    have htb : t < bs.length := by rw [HE5.out.1]; exact hlt
    obtain ⟨bt, hbt⟩ : ∃ bt, bs[t]? = some bt := ⟨_, List.getElem?_eq_getElem htb⟩
    have hp1 := (hbr.cell (p := ⟨g5, t, none⟩) hg5).trans (hc5 t (PB bt) (by rw [List.getElem?_map, hbt]; rfl))
    have hEt := (HE5.out.2 t bt x hbt hx).later hbr
    have htk : rs.take (t + 1) = rs.take t ++ [x] := by
     rw [<- List.take_append_getElem hlt]; congr 2
     rw [List.getElem?_eq_getElem hlt] at hx; simpa using hx
    have hns := HN.out x (List.mem_of_getElem? hx)
    have e12 := hEt.cells.self
    have e13 := hEt.cells.par
    obtain ⟨sf, hsf⟩ : ∃ b, x.r.self = b := ⟨_, rfl⟩
    obtain ⟨pr, hpr⟩ : ∃ b, x.r.par = b := ⟨_, rfl⟩
    rw [hsf] at e12
    rw [hpr] at e13
    obtain ⟨tn, htn⟩ : ∃ s, x.nm = s := ⟨_, rfl⟩
    have hop : openX bn x = (!(sf || pr) && decide (tn = bn)) := by unfold openX; rw [hsf, hpr, htn]
    have hNM : sf = false -> pr = false -> Calls Tryz.prog 89 #[PB bt] wr fun e w' => e = .returned (SV tn) /\ Below wr.heap.size wr w' := by
     intro h1 h2
     obtain ⟨f, hf⟩ := hns (hsf.trans h1) (hpr.trans h2)
     rw [<- htn]; exact nameX_any wr bt F M D img f x hEt (HK.out _ hbwr) hf
    have HNM := Lib.hid hNM
    have HTK := Lib.hid htk; have HET := Lib.hid hEt; have HX := Lib.hid hx; have HOP := Lib.hid hop
    clear htk hx hEt hbt hc5 hsf hpr htn hop hNM hns
    cases sf with
    | true =>
      go_wp2_with (fail)
      go_roundw
      case rel =>
       refine ⟨t + 1, hlt, by simp, ?_, hbr⟩
       unfold Hid; rw [HTK.out]; intro y hy
       rcases List.mem_append.1 hy with h | h
       . exact hno.out y h
       . rw [List.mem_singleton] at h; subst h; rw [HOP.out]; rfl
      case measure => simp [intOf]; omega
    | false =>
      cases pr with
      | true =>
        go_wp2_with (fail)
        go_roundw
        case rel =>
         refine ⟨t + 1, hlt, by simp, ?_, hbr⟩
         unfold Hid; rw [HTK.out]; intro y hy
         rcases List.mem_append.1 hy with h | h
         . exact hno.out y h
         . rw [List.mem_singleton] at h; subst h; rw [HOP.out]; rfl
        case measure => simp [intOf]; omega
      | false =>
        by_cases hq : tn = bn
        . have hqb : (tn == bn) = true := by simpa using hq
          have hxr : x = r := by
           have h := find_first HX.out hno.out (by rw [HOP.out]; simpa using hq)
           rw [HFI.out] at h; exact (Option.some.inj h).symm
          have hD1 : ∀ W, Below wr.heap.size wr W -> Calls Tryz.prog 90 #[PB bt] W fun e w' => e = .returned (.bool false) /\ w' = W := by intro W hW; have h := isDirX_any W bt x _ (HET.out.later hW); rw [hxr, HD0.out] at h; exact h
          have HD1 := Lib.hid hD1; have HXR := Lib.hid hxr
          clear hq hD1 hxr
          go_wp2_with (first
           | (go_at_call 90; go_must (refine (HD1.out _ hb6).mono ?_); rintro e w7 ⟨rfl, h7⟩; have h7' := h7.symm; subst h7')
           | (go_at_call 89; go_must (refine (HNM.out rfl rfl).mono ?_); rintro e w6 ⟨rfl, hb6⟩))
          go_ret2
          have hbw6 : Below w.heap.size w w6 := hbwr.trans (hb6.mono hbwr.size)
          refine ⟨w6.heap.size, bt, rfl, heap_alloc_new w6 _, ?_, hbw6.size, hbw6.alloc hbw6.size _⟩
          rw [<- HXR.out]
          exact (HET.out.later hb6).later ((Below.refl _ _).alloc (Nat.le_refl _) _)
        . have hqb : (tn == bn) = false := by simpa using hq
          go_wp2_with (first
           | (go_at_call 89; go_must (refine (HNM.out rfl rfl).mono ?_); rintro e w6 ⟨rfl, hb6⟩))
          go_roundw
          case rel =>
           refine ⟨t + 1, hlt, by simp, ?_, hbr.trans (hb6.mono hbr.size)⟩
           unfold Hid; rw [HTK.out]; intro y hy
           rcases List.mem_append.1 hy with h | h
           . exact hno.out y h
           . rw [List.mem_singleton] at h; subst h; rw [HOP.out]; simpa using hq
          case measure => simp [intOf]; omega
  . have hte : t = rs.length := by omega
    subst hte
    have hno := hno.out
    rw [List.take_length] at hno
    exfalso
    have h := HFI.out
    rw [List.find?_eq_none.2 (fun y hy => by rw [hno y hy]; simp)] at h
    cases h
theorem freadX_any (F M D X b g c n B L : Nat) (E : Addr) (l img : List UInt8) (w : World) (hW : FsR w F M D true img) (hX : w.heap[X]? = some (.cells (fileC b 0 false).toArray 118)) (hE : DirAt w b L n F) (h0 : 0 < n) (hn : n <= 2000000) (hL : L < 400000) (hfit : L * 2048 + n <= img.length) (hlen : img.length <= 1000000000)
 (hXB : X < B) (hbB : b < B) (hFB : F < B) (hBw : B <= w.heap.size) (hl : l.length = n) (hO : Own w B (.slice (some ⟨g, 0, none⟩) n c) l) (hG : w.cell? ⟨0, 0, none⟩ = some (EofV E)) (hX0 : 0 < X) :
 Calls Tryz.prog 69 #[PB X, .slice (some ⟨g, 0, none⟩) n c] w fun e w' => e = .returned (.tuple #[.int .i64 n, EofV E]) /\ Own w' B (.slice (some ⟨g, 0, none⟩) n c) ((img.drop (L * 2048)).take n) /\ w'.heap[X]? = some (.cells (fileC b n false).toArray 118) /\ ∀ K, K <= X -> Below K w w' := by
 have c0 := ent_cell hX 0 _ rfl
 have c3 := ent_cell hX 3 _ rfl
 have c4 := ent_cell hX 4 _ rfl
 have e1 := hE.e
 have e2 := hE.s
 have e16 := hE.fs
 have f4 := hW.back
 have f5 := hW.blk
 have m1 := method_ReadAt ⟨M, 0, none⟩
 have m2 := ahead_ReadAt ⟨M, 0, none⟩
 have hnI : (n : Int) <= 2000000 := by omega
 have hLI : (L : Int) < 400000 := by omega
 have h0I : decide ((n : Int) <= 0) = false := by simp; omega
 have HW := Lib.hid hW; have HX := Lib.hid hX; have HE := Lib.hid hE; have HO := Lib.hid hO; have HL := Lib.hid hl
 clear hW hX hE hO hl
 go_enter Tryz.func69, Tryz.ntmps69
 go_upto_region 4 with (fail)
 go_quiet (fail)
 have hq1 : Below w.heap.size w (w.drewN nq) := below_drewN (Below.refl _ _) _
 have hq2 : (w.drewN nq).heap = w.heap := rfl
 generalize hwq : w.drewN nq = w1
 rw [hwq] at hq1 hq2
 clear hwq
 have hcc : ∀ a, w1.cell? a = w.cell? a := fun a => by simp only [World.cell?, hq2]
 replace c0 := (hcc _).trans c0; replace c3 := (hcc _).trans c3; replace c4 := (hcc _).trans c4; replace e1 := (hcc _).trans e1; replace e2 := (hcc _).trans e2; replace e16 := (hcc _).trans e16; replace f4 := (hcc _).trans f4; replace f5 := (hcc _).trans f5; replace hG := (hcc _).trans hG
 have hs1 : w1.heap.size = w.heap.size := by rw [hq2]
 have HQ2 := Lib.hid hq2; have HS1 := Lib.hid hs1
 clear hcc hq2 hs1
 clear hnI hLI
 go_upto_region 12 with (fail)
 have zE : IntKind.i64.wrap (IntKind.i64.wrap ((L : Int) * 2048)) = ((L * 2048 : Nat) : Int) := by
  rw [wrap_small ((L : Int) * 2048) (by omega) (by omega), wrap_small _ (by omega) (by omega)]; omega
 have HZ := Lib.hid zE
 clear zE
 have hMl := HW.out.mlt; have hDl := HW.out.dlt
 have hb1 : Below B w w1 := hq1.mono hBw
 have hO1 : Own w1 B (.slice (some ⟨g, 0, none⟩) n c) l := own_blk HO.out (fun k _ => by rw [HQ2.out])
 have HO1 := Lib.hid hO1
 have hW1 := HW.out.later hq1
 have HW1 := Lib.hid hW1
 have hB1 : B <= w1.heap.size := by rw [HS1.out]; exact hBw
 clear hO1 hW1
 have hnc : n <= c := by have h := HO1.out; unfold Own at h; rw [HL.out] at h; exact row_cap h h0
 have hncI : (n : Int) <= (c : Int) := by omega
 have hn0I : (0 : Int) <= (n : Int) := by omega
 go_region_held3 (fun W => W.cell? ⟨F, 5, none⟩ = some (.int .i64 2048) /\ W.cell? ⟨X, 3, none⟩ = some (.int .i64 0)) (first | exact ⟨f5, c3⟩ | go_keep | exact ⟨(hb4.cell (p := ⟨F, 5, none⟩) hFB).trans f5, (hb4.cell (p := ⟨X, 3, none⟩) hXB).trans c3⟩) (first
  | (go_at_call 185; go_must (refine (readAt_z M D B g c (L * 2048) n _ img l _ HZ.out (HW1.out.later (Below.refl _ _).drew).mem HL.out (own_blk HO1.out (fun k _ => rfl)) h0 hfit hlen (by exact hB1)).mono ?_); go_must (rintro e w4 ⟨rfl, hO4, hb4⟩)))
 have hb14 : Below B w w4 := (hb1.trans (Below.refl _ _).drew).trans hb4
 have HO4 := Lib.hid hO4
 have x4 : w4.heap[X]? = some (.cells (fileC b 0 false).toArray 118) := (hb14.block X hXB).trans HX.out
 have hE4 := HE.out.keep hb14 hbB
 have g4 : w4.cell? ⟨0, 0, none⟩ = some (EofV E) := (hb4.cell (p := ⟨0, 0, none⟩) (by show 0 < B; omega)).trans hG
 have c3' := ent_cell x4 3 _ rfl
 have fr3 := ent_frozen x4 3
 have X4 := Lib.hid x4; have HE4 := Lib.hid hE4
 clear hO4 x4 hE4 c0 c3 c4 e1 e2 e16 f4 f5 hG hncI hn0I
 go_upto_region 17 with (fail)
 have hbX : b ≠ X := by
  rintro rfl
  have h := HE4.out.fs
  simp [World.cell?, X4.out] at h
 have x5 : (w4.setCell ⟨X, 3, none⟩ (.int .i64 n)).heap[X]? = some (.cells (fileC b n false).toArray 118) := heap_setCell_same w4 X 3 _ 118 (.int .i64 n) X4.out
 have ho5 : ∀ k, k ≠ X -> (w4.setCell ⟨X, 3, none⟩ (.int .i64 n)).heap[k]? = w4.heap[k]? := fun k hk => heap_setCell_other w4 ⟨X, 3, none⟩ k _ hk
 have hE5 : DirAt (w4.setCell ⟨X, 3, none⟩ (.int .i64 n)) b L n F := by
  have h := HE4.out
  exact ⟨by rw [<- h.e]; simp only [World.cell?]; rw [ho5 b hbX], by rw [<- h.s]; simp only [World.cell?]; rw [ho5 b hbX], by rw [<- h.fs]; simp only [World.cell?]; rw [ho5 b hbX]⟩
 have g5 : (w4.setCell ⟨X, 3, none⟩ (.int .i64 n)).cell? ⟨0, 0, none⟩ = some (EofV E) := by
  rw [<- g4]; simp only [World.cell?]; rw [ho5 0 (by omega)]
 have hs5 : ∀ K, K <= X -> Below K w (w4.setCell ⟨X, 3, none⟩ (.int .i64 n)) := fun K hK => (hb14.mono (by omega)).setCell hK _
 have hO5 : Own (w4.setCell ⟨X, 3, none⟩ (.int .i64 n)) B (.slice (some ⟨g, 0, none⟩) n c) ((img.drop (L * 2048)).take n) := own_blk HO4.out (fun k hk => ho5 k (by
  have := World.ownsRow.lt HO4.out k hk; omega))
 have HFIN := Lib.hid (And.intro hO5 (And.intro x5 hs5))
 generalize hw5 : w4.setCell ⟨X, 3, none⟩ (.int .i64 n) = w5 at x5 hE5 g5 HFIN ⊢
 have c0 := ent_cell x5 0 _ rfl
 have c3 := ent_cell x5 3 _ rfl
 have e2 := hE5.s
 clear hw5 x5 hE5 hs5 hO5 g4 c3' fr3 ho5 hb4 hb14 hb1 hq1
 have hnI : (n : Int) <= 2000000 := by omega
 go_quiet (fail)
 clear hnI
 have g6 : (w5.drewN nq).cell? ⟨0, 0, none⟩ = some (EofV E) := g5
 have HF2 : Hid (Own (w5.drewN nq) B (.slice (some ⟨g, 0, none⟩) n c) ((img.drop (L * 2048)).take n) /\ (w5.drewN nq).heap[X]? = some (.cells (fileC b n false).toArray 118) /\ ∀ K, K <= X -> Below K w (w5.drewN nq)) := ⟨HFIN.out.1, HFIN.out.2.1, fun K hK => below_drewN (HFIN.out.2.2 K hK) _⟩
 generalize w5.drewN nq = w6 at g6 HF2 ⊢
 clear c0 c3 e2 g5
 go_wp2
 go_ret2
 exact ⟨rfl, HF2.out.1, HF2.out.2.1, HF2.out.2.2⟩
end Go.Proofs.YtilgpaeeleknhaaGreatDoor
