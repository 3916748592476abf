/- A part of the proof of laws.FnIsoRock (see the last text). -/
import Derived.Test.YtilgpaeeleknhaaGreatDoorJr31
import Derived.Test.YtilgpaeeleknhaaGreatDoorJr26
set_option linter.unusedSimpArgs false
set_option linter.unusedVariables false
set_option maxRecDepth 1000000
set_option maxHeartbeats 8000000
namespace Go.Proofs.YtilgpaeeleknhaaGreatDoor
open Go Go.RowKit
abbrev IB (b : Nat) : Value := .iface 116 (PB b)
theorem info133 : (Tryz.prog.info? 133).map (fun i => (i.zero.map (·.cells.size), i.size, i.bytes)) = some (some 1, 1, 16) := by kernel_rfl
theorem under130 : Tryz.prog.underlying 130 = some (.slice 133) := by kernel_rfl
def tellR (rs : List Rec) : List Rec := rs.filter fun r => !(r.self || r.par)
theorem tellR_snoc_no (rs : List Rec) (r : Rec) (h : (r.self || r.par) = true) : tellR (rs ++ [r]) = tellR rs := by
 unfold tellR; rw [List.filter_append, List.filter_cons, h]; simp
theorem tellR_snoc_yes (rs : List Rec) (r : Rec) (h : (r.self || r.par) = false) : tellR (rs ++ [r]) = tellR rs ++ [r] := by
 unfold tellR; rw [List.filter_append, List.filter_cons, h]; simp
theorem readDirectory_ok (F : Nat) (p : ByteArray) (rs : List Rec) (w : World) (hj : w.cell? ⟨F, 14, none⟩ = some (.bool false)) (hr : Calls Tryz.prog 112 #[PB F, .string p] w fun e w' => DirR w w' F rs e) :
 Calls Tryz.prog 85 #[PB F, .string p] w fun e w' => DirR w w' F rs e := by
 have HR := Lib.hid hr
 clear hr
 go_enter Tryz.func85, Tryz.ntmps85
 go_wp2_with (go_at_call 112; refine HR.out.mono ?_; rintro e w2 ⟨A, co, bs, rfl, h1, h2, h3, h4⟩)
 go_ret2
 exact ⟨A, co, bs, rfl, h1, h2, h3, h4⟩
def ListR (w w' : World) (F : Nat) (rs : List Rec) (e : Ending) : Prop := ∃ A co bs, e = .returned (.tuple #[.slice A rs.length co, .nilIface]) /\ w'.ownsRow w.heap.size 133 1 (.slice A rs.length co) rs.length (bs.map IB) /\ Ents w' bs rs (PB F) /\ (∀ b ∈ bs, w.heap.size <= b) /\ Below w.heap.size w w'
theorem readDir_any (F : Nat) (p : ByteArray) (rs : List Rec) (w : World) (hF : F < w.heap.size) (hw : w.cell? ⟨F, 1, none⟩ = some (.string ⟨#[]⟩)) (hrl : rs.length <= 1000)
 (hv : Calls Tryz.prog 82 #[.string p] w fun e w' => e = .returned .nilIface /\ Below w.heap.size w w')
 (hr : ∀ W, Below w.heap.size w W -> Calls Tryz.prog 85 #[PB F, .string p] W fun e w' => DirR W w' F rs e) :
 Calls Tryz.prog 63 #[PB F, .string p] w fun e w' => ListR w w' F (tellR rs) e := by
 have HV := Lib.hid hv; have HR := Lib.hid hr
 clear hv hr
 go_enter Tryz.func63, Tryz.ntmps63
 go_wp2_with (first
  | (go_at_call 85; refine (HR.out _ hb2).mono ?_; rintro e w5 ⟨A5, c5, bs, rfl, hO5, hE5, hB5, hb5⟩; have HO5 := Lib.hid hO5; have HE5 := Lib.hid hE5; have HB5 := Lib.hid hB5; clear hO5 hE5 hB5)
  | (go_at_call 82; refine HV.out.mono ?_; rintro e w2 ⟨rfl, hb2⟩; have f1 := (hb2.cell (p := ⟨F, 1, none⟩) hF).trans hw))
 have hbw5 : Below w.heap.size w w5 := hb2.trans (hb5.mono hb2.size)
 go_loopw [7, 56] (fun ov iv wr => ∃ (t m : Nat) (A : Option Addr) (co : Nat) (cs : List Nat), t <= rs.length /\ m <= t /\ iv = .int .i64 t /\ ov = .slice A m co /\ Hid (cs.length = m) /\ Hid (wr.ownsRow w5.heap.size 133 1 (.slice A m co) m (cs.map IB)) /\ Hid (Ents wr cs (tellR (rs.take t)) (PB F)) /\ Hid (∀ b ∈ cs, w.heap.size <= b) /\ Below w5.heap.size w5 wr) (fun _ iv _ => rs.length - (intOf iv).toNat)
 case atStart => exact ⟨0, 0, none, 0, [], Nat.zero_le _, Nat.le_refl _, rfl, rfl, rfl, World.ownsRow_nil _ _ _ _, Ents.nil _ _, by simp [Hid], Below.refl _ _⟩
 case round =>
  obtain ⟨t, m, A, co, cs, ht, hm, rfl, rfl, hcl, hO, hE, hB, hb⟩ := hrel
  by_cases hlt : t < rs.length
  . obtain ⟨x, hx⟩ : ∃ x, rs[t]? = some x := ⟨_, List.getElem?_eq_getElem hlt⟩
    obtain ⟨g5, rfl, _, hg5, hc5⟩ := row_addr HO5.out (by omega)
    have htb : t < bs.length := by rw [HE5.out.1]; exact hlt
    obtain ⟨bt, hbt⟩ : ∃ bt, bs[t]? = some bt := ⟨_, List.getElem?_eq_getElem htb⟩
    have hp1 := hc5 t (PB bt) (by rw [List.getElem?_map, hbt]; rfl)
    rw [<- hb.cell (p := ⟨g5, t, none⟩) hg5] at hp1
    have hEt := (HE5.out.2 t bt x hbt hx).later hb
    have htk : rs.take (t + 1) = rs.take t ++ [x] := by
     rw [<- List.take_append_getElem hlt]; congr 2
     rw [List.getElem?_eq_getElem hlt] at hx; simpa using hx
    have y12 := hEt.cells.self
    have y13 := hEt.cells.par
    have hbw : w.heap.size <= bt := Nat.le_trans hb2.size (HB5.out bt (List.mem_of_getElem? hbt))
    have hbr := hb.size
    have HTK := Lib.hid htk; have HET := Lib.hid hEt; have HBW := Lib.hid hbw
    clear htk hx hEt hbt hc5 hbw
    cases h1 : x.self with
    | true =>
      rw [h1] at y12
      go_wp2_with (fail)
      go_roundw
      case rel => exact ⟨t + 1, m, A, co, cs, hlt, by omega, by simp, rfl, hcl, hO, by unfold Hid; rw [HTK.out, tellR_snoc_no _ _ (by rw [h1]; rfl)]; exact hE, hB, hb⟩
      case measure => simp [intOf]; omega
    | false =>
      rw [h1] at y12
      cases h2 : x.par with
      | true =>
        rw [h2] at y13
        go_wp2_with (fail)
        go_roundw
        case rel => exact ⟨t + 1, m, A, co, cs, hlt, by omega, by simp, rfl, hcl, hO, by unfold Hid; rw [HTK.out, tellR_snoc_no _ _ (by rw [h1, h2]; rfl)]; exact hE, hB, hb⟩
        case measure => simp [intOf]; omega
      | false =>
        rw [h2] at y13
        go_wp2_with (at_builtin; refine asList rfl fun KK hKK => ?_; refine go_appV (w := wr) under130 info133 (by decide) (.tmp 70) (.tmp 73) rfl w5.heap.size wr.heap.size m A co (cs.map IB) (IB bt) (by rw [List.length_map]; exact hcl.out.symm) rfl hO.out ((Below.refl _ _).alloc (Nat.le_refl _) _) (by show (wr.heap.push _)[wr.heap.size]? = _; rw [Array.getElem?_push_size]) rfl rfl rfl (by omega) hbr ?_; intro A6 c6 w6 hO6 hb6 hg6; refine hKK _ _ ?_; clear hKK KK)
        go_roundw
        case rel =>
         refine ⟨t + 1, m + 1, A6, c6, cs ++ [bt], hlt, by omega, by simp, rfl, ?_, ?_, ?_, ?_, hb.trans hb6⟩
         . unfold Hid; rw [List.length_append, hcl.out]; rfl
         . unfold Hid; rw [List.map_append]; exact hO6
         . unfold Hid; rw [HTK.out, tellR_snoc_yes _ _ (by rw [h1, h2]; rfl)]
           exact Ents.grown (hE.out.snoc HET.out) hO.out (by decide) hg6
         . unfold Hid
           intro y hy
           rcases List.mem_append.1 hy with h | h
           . exact hB.out y h
           . rw [List.mem_singleton] at h; subst h; exact HBW.out
        case measure => simp [intOf]; omega
  . have hte : t = rs.length := by omega
    subst hte
    go_wp2_with (fail)
    go_ret2
    have hE := hE.out
    rw [List.take_length] at hE
    have hml : (tellR rs).length = m := by rw [<- hE.1, hcl.out]
    refine ⟨A, co, cs, by rw [hml]; rfl, ?_, hE, hB.out, hbw5.trans (hb.mono hbw5.size)⟩
    rw [hml]; exact row_lower hO.out hbw5.size
def StatR (w w' : World) (F : Nat) (rs : List Rec) (bn : List UInt8) (e : Ending) : Prop :=
 (match rs.find? (fun r => decide (r.told.data.toList = bn)) with
 | some r => ∃ b, e = .returned (.tuple #[IB b, .nilIface]) /\ EntAt w' b r (PB F)
 | none => ∃ b, e = .returned (.tuple #[.nilIface, .iface 188 (PB b)])) /\ Below w.heap.size w w'
theorem find_at {rs : List Rec} {bn : List UInt8} {t : Nat} {r : Rec} (h : rs[t]? = some r) (h1 : ∀ x ∈ rs.take t, x.told.data.toList ≠ bn) (h2 : r.told.data.toList = bn) : rs.find? (fun r => decide (r.told.data.toList = bn)) = some r := by
 have ht := (List.getElem?_eq_some_iff.1 h).1
 have e : rs = rs.take t ++ r :: rs.drop (t + 1) := by
  rw [<- (List.getElem?_eq_some_iff.1 h).2, <- List.drop_eq_getElem_cons ht, List.take_append_drop]
 have hf : (rs.take t).find? (fun r => decide (r.told.data.toList = bn)) = none := by
  rw [List.find?_eq_none]; intro x hx; simpa using h1 x hx
 rw [e, List.find?_append, hf, List.find?_cons, decide_eq_true h2]; rfl
theorem find_none {rs : List Rec} {bn : List UInt8} (h1 : ∀ x ∈ rs, x.told.data.toList ≠ bn) : rs.find? (fun r => decide (r.told.data.toList = bn)) = none := by
 rw [List.find?_eq_none]; intro x hx; simpa using h1 x hx
theorem stat_any (F : Nat) (p d : ByteArray) (bn : List UInt8) (rs : List Rec) (w : World) (hF : FsP w F false) (hp : p.data.toList ≠ [46]) (hrl : rs.length <= 1000) (hnm : ∀ r ∈ rs, r.name.size <= 1000)
 (hd : ∀ W, Calls Tryz.prog 86 #[.string p] W fun e w' => e = .returned (.string d) /\ Below W.heap.size W w')
 (hb : ∀ W, Calls Tryz.prog 87 #[.string p] W fun e w' => e = .returned (.string (ofL bn)) /\ w' = W)
 (hr : ∀ W, Below w.heap.size w W -> Calls Tryz.prog 63 #[PB F, .string d] W fun e w' => ListR W w' F rs e) :
 Calls Tryz.prog 64 #[PB F, .string p] w fun e w' => StatR w w' F rs bn e := by
 have HD := Lib.hid hd; have HB := Lib.hid hb; have HR := Lib.hid hr; have HN := Lib.hid hnm
 have KF : ∀ W, Below w.heap.size w W -> FsP W F false := fun W h => hF.later h
 have HK := Lib.hid KF
 have hpb : (p.toList == [46]) = false := by rw [Lib.toList_data]; simpa using hp
 clear hd hb hr hnm KF hF hp
 go_enter Tryz.func64, Tryz.ntmps64
 go_wp2_with (first
  | (go_at_call 63; refine (HR.out _ hb2).mono ?_; rintro e w5 ⟨A5, c5, bs, rfl, hO5, hE5, hB5, hb5⟩; have HO5 := Lib.hid hO5; have HE5 := Lib.hid hE5; clear hO5 hE5 hB5)
  | (go_at_call 87; refine (HB.out _).mono ?_; rintro e w3 ⟨rfl, rfl⟩)
  | (go_at_call 86; refine (HD.out _).mono ?_; rintro e w2 ⟨rfl, hb2⟩))
 have hbw5 : Below w.heap.size w w5 := hb2.trans (hb5.mono hb2.size)
 have f11 := (HK.out _ hbw5).sus
 go_loopw [36] (fun iv wr => ∃ t : Nat, t <= rs.length /\ iv = .int .i64 t /\ Hid (∀ x ∈ rs.take t, x.told.data.toList ≠ bn) /\ wr = w5) (fun iv _ => rs.length - (intOf iv).toNat)
 case atStart => exact ⟨0, Nat.zero_le _, rfl, by simp [Hid], rfl⟩
 case round =>
  obtain ⟨t, ht, rfl, hno, rfl⟩ := hrel
  by_cases hlt : t < rs.length
  . obtain ⟨x, hx⟩ : ∃ x, rs[t]? = some x := ⟨_, List.getElem?_eq_getElem hlt⟩
    obtain ⟨g5, rfl, _, hg5, hc5⟩ := row_addr HO5.out (by omega)
    have htb : t < bs.length := by rw [HE5.out.1]; exact hlt
    obtain ⟨bt, hbt⟩ : ∃ bt, bs[t]? = some bt := ⟨_, List.getElem?_eq_getElem htb⟩
    have hp1 := hc5 t (IB bt) (by rw [List.getElem?_map, hbt]; rfl)
    have hEt := HE5.out.2 t bt x hbt hx
    have m1 := method_Name ⟨bt, 0, none⟩
    have m2 := method_Info ⟨bt, 0, none⟩
    have htk : rs.take (t + 1) = rs.take t ++ [x] := by
     rw [<- List.take_append_getElem hlt]; congr 2
     rw [List.getElem?_eq_getElem hlt] at hx; simpa using hx
    have hns := HN.out x (List.mem_of_getElem? hx)
    have HTK := Lib.hid htk; have HET := Lib.hid hEt; have HX := Lib.hid hx
    clear htk hx hEt hbt hc5
    by_cases hq : x.told.data.toList = bn
    . have hqb : (x.told.toList == bn) = true := by rw [Lib.toList_data]; simpa using hq
      have HQ := Lib.hid hq
      clear hq
      go_wp2_with (first
       | (go_at_call 186; refine (info_any _ bt).mono ?_; rintro e w7 ⟨rfl, rfl⟩)
       | (go_at_call 89; refine (name_any _ bt F x HET.out f11 hns).mono ?_; rintro e w6 ⟨rfl, rfl⟩))
      go_ret2
      refine ⟨?_, hbw5⟩
      rw [find_at HX.out hno.out HQ.out]
      exact ⟨bt, rfl, HET.out⟩
    . have hqb : (x.told.toList == bn) = false := by rw [Lib.toList_data]; simpa using hq
      go_wp2_with (first
       | (go_at_call 89; refine (name_any _ bt F x HET.out f11 hns).mono ?_; rintro e w6 ⟨rfl, rfl⟩))
      go_roundw
      case rel =>
       refine ⟨t + 1, hlt, by simp, ?_, by first | rfl | trivial⟩
       unfold Hid; rw [HTK.out]
       intro y hy
       rcases List.mem_append.1 hy with h | h
       . exact hno.out y h
       . rw [List.mem_singleton] at h; subst h; exact hq
      case measure => simp [intOf]; omega
  . have hte : t = rs.length := by omega
    subst hte
    go_wp2_with (first
     | (go_at_call 76; refine (err_any _ _).mono ?_; rintro e w6 ⟨⟨b6, rfl⟩, hb6⟩))
    go_ret2
    have hno := hno.out
    rw [List.take_length] at hno
    refine ⟨?_, (hbw5.trans (hb6.mono hbw5.size)).alloc (Nat.le_trans hbw5.size hb6.size) _⟩
    rw [find_none hno]
    exact ⟨_, rfl⟩
def openP (bn : List UInt8) (r : Rec) : Bool := !(r.self || r.par) && decide (r.told.data.toList = bn)
theorem find_first {α : Type} {l : List α} {p : α -> Bool} {t : Nat} {x : α} (h : l[t]? = some x) (h1 : ∀ y ∈ l.take t, p y = false) (h2 : p x = true) : l.find? p = some x := by
 have ht := (List.getElem?_eq_some_iff.1 h).1
 have e : l = l.take t ++ x :: l.drop (t + 1) := by
  rw [<- (List.getElem?_eq_some_iff.1 h).2, <- List.drop_eq_getElem_cons ht, List.take_append_drop]
 have hf : (l.take t).find? p = none := by
  rw [List.find?_eq_none]; intro y hy; rw [h1 y hy]; simp
 rw [e, List.find?_append, hf, List.find?_cons, h2]; rfl
abbrev fileC (b off : Nat) (cl : Bool) : List Value := [PB b, .bool false, .bool false, .int .i64 off, .bool cl]
theorem open_any (F : Nat) (p d : ByteArray) (bn : List UInt8) (rs : List Rec) (r : Rec) (w : World) (hF : FsP w F false) (hwk : w.cell? ⟨F, 1, none⟩ = some (.string ⟨#[]⟩)) (hp : p.data.toList ≠ [46]) (hrl : rs.length <= 1000) (hnm : ∀ r ∈ rs, r.name.size <= 1000) (hfind : rs.find? (openP bn) = some r) (hd0 : r.d = false)
 (hv : Calls Tryz.prog 82 #[.string p] w fun e w' => e = .returned .nilIface /\ Below w.heap.size w w')
 (hd : ∀ W, Calls Tryz.prog 86 #[.string p] W fun e w' => e = .returned (.string d) /\ Below W.heap.size W w')
 (hb : ∀ W, Calls Tryz.prog 87 #[.string p] W fun e w' => e = .returned (.string (ofL bn)) /\ w' = W)
 (hr : ∀ W, Below w.heap.size w W -> Calls Tryz.prog 85 #[PB F, .string d] W fun e w' => DirR W w' F rs e) :
 Calls Tryz.prog 66 #[PB F, .string p] w fun e w' => ∃ X b, e = .returned (.tuple #[.iface 113 (PB X), .nilIface]) /\ w'.heap[X]? = some (.cells (fileC b 0 false).toArray 118) /\ EntAt w' b r (PB F) /\ w.heap.size <= X /\ Below w.heap.size w w' := by
 have HV := Lib.hid hv; have HD := Lib.hid hd; have HB := Lib.hid hb; have HR := Lib.hid hr; have HN := Lib.hid hnm; have HFI := Lib.hid hfind; have HD0 := Lib.hid hd0
 have hFl := hF.lt
 have HK := Lib.hid (fun W (h : Below w.heap.size w W) => hF.later h)
 have HW := Lib.hid hwk
 have hpb : (p.toList == [46]) = false := by rw [Lib.toList_data]; simpa using hp
 clear hv hd hb hr hnm hF hp hfind hd0 hwk
 go_enter Tryz.func66, Tryz.ntmps66
 go_wp2_with (first
  | (go_at_call 85; go_must (refine (HR.out _ hb3).mono ?_); rintro e w5 ⟨A5, c5, bs, rfl, hO5, hE5, hB5, hb5⟩; have HO5 := Lib.hid hO5; have HE5 := Lib.hid hE5; clear hO5 hE5 hB5)
  | (go_at_call 87; go_must (refine (HB.out _).mono ?_); rintro e w4 ⟨rfl, h4⟩; have h4' := h4.symm; subst h4')
  | (go_at_call 86; go_must (refine (HD.out _).mono ?_); rintro e w3 ⟨rfl, hx3⟩; have hb3 := hb2.trans (hx3.mono hb2.size))
  | (go_at_call 82; go_must (refine HV.out.mono ?_); rintro e w2 ⟨rfl, hb2⟩; have f1 := (hb2.cell (p := ⟨F, 1, none⟩) hFl).trans HW.out))
 have hbw5 : Below w.heap.size w w5 := hb3.trans (hb5.mono hb3.size)
 have f11 := (HK.out _ hbw5).sus
 clear hb5 hx3 f1
 go_loopw [67] (fun iv wr => ∃ t : Nat, t <= rs.length /\ iv = .int .i64 t /\ Hid (∀ x ∈ rs.take t, openP bn x = false) /\ wr = w5) (fun iv _ => rs.length - (intOf iv).toNat)
 case atStart => exact ⟨0, Nat.zero_le _, rfl, by simp [Hid], rfl⟩
 case round =>
  obtain ⟨t, ht, rfl, hno, hwq⟩ := hrel
  have hwq' := hwq.symm
  subst hwq'
  clear hwq
  by_cases hlt : t < rs.length
  . obtain ⟨x, hx⟩ : ∃ x, rs[t]? = some x := ⟨_, List.getElem?_eq_getElem hlt⟩
    obtain ⟨g5, rfl, _, hg5, hc5⟩ := row_addr HO5.out (by omega)
    have htb : t < bs.length := by rw [HE5.out.1]; exact hlt
    obtain ⟨bt, hbt⟩ : ∃ bt, bs[t]? = some bt := ⟨_, List.getElem?_eq_getElem htb⟩
    have hp1 := hc5 t (PB bt) (by rw [List.getElem?_map, hbt]; rfl)
    have hEt := HE5.out.2 t bt x hbt hx
    have htk : rs.take (t + 1) = rs.take t ++ [x] := by
     rw [<- List.take_append_getElem hlt]; congr 2
     rw [List.getElem?_eq_getElem hlt] at hx; simpa using hx
    have hns := HN.out x (List.mem_of_getElem? hx)
    have e12 := hEt.cells.self
    have e13 := hEt.cells.par
    obtain ⟨sf, hsf⟩ : ∃ b, x.self = b := ⟨_, rfl⟩
    obtain ⟨pr, hpr⟩ : ∃ b, x.par = b := ⟨_, rfl⟩
    rw [hsf] at e12
    rw [hpr] at e13
    obtain ⟨tn, htn⟩ : ∃ s, x.told = s := ⟨_, rfl⟩
    have hop : openP bn x = (!(sf || pr) && decide (tn.data.toList = bn)) := by unfold openP; rw [hsf, hpr, htn]
    have hNM : Calls Tryz.prog 89 #[PB bt] w5 fun e w' => e = .returned (.string tn) /\ w' = w5 := by rw [<- htn]; exact name_any w5 bt F x hEt f11 hns
    have HNM := Lib.hid hNM
    have HTK := Lib.hid htk; have HET := Lib.hid hEt; have HX := Lib.hid hx; have HOP := Lib.hid hop
    clear htk hx hEt hbt hc5 hsf hpr htn hop hNM
    cases sf with
    | true =>
      go_wp2_with (fail)
      go_roundw
      case rel =>
       refine ⟨t + 1, hlt, by simp, ?_, by first | rfl | trivial⟩
       unfold Hid; rw [HTK.out]; intro y hy
       rcases List.mem_append.1 hy with h | h
       . exact hno.out y h
       . rw [List.mem_singleton] at h; subst h; rw [HOP.out]; rfl
      case measure => simp [intOf]; omega
    | false =>
      cases pr with
      | true =>
        go_wp2_with (fail)
        go_roundw
        case rel =>
         refine ⟨t + 1, hlt, by simp, ?_, by first | rfl | trivial⟩
         unfold Hid; rw [HTK.out]; intro y hy
         rcases List.mem_append.1 hy with h | h
         . exact hno.out y h
         . rw [List.mem_singleton] at h; subst h; rw [HOP.out]; rfl
        case measure => simp [intOf]; omega
      | false =>
        by_cases hq : tn.data.toList = bn
        . have hqb : (tn.toList == bn) = true := by rw [Lib.toList_data]; simpa using hq
          have hxr : x = r := by
           have h := find_first HX.out hno.out (by rw [HOP.out]; simpa using hq)
           rw [HFI.out] at h; exact (Option.some.inj h).symm
          have hD1 : Calls Tryz.prog 90 #[PB bt] w5 fun e w' => e = .returned (.bool false) /\ w' = w5 := by have h := isDir_any w5 bt x _ HET.out; rw [hxr, HD0.out] at h; exact h
          have HD1 := Lib.hid hD1; have HXR := Lib.hid hxr
          clear hq hD1 hxr
          go_wp2_with (first
           | (go_at_call 90; go_must (refine HD1.out.mono ?_); rintro e w7 ⟨rfl, h7⟩; have h7' := h7.symm; subst h7')
           | (go_at_call 89; go_must (refine HNM.out.mono ?_); rintro e w6 ⟨rfl, h6⟩; have h6' := h6.symm; subst h6'))
          go_ret2
          refine ⟨w5.heap.size, bt, rfl, heap_alloc_new w5 _, ?_, hbw5.size, hbw5.alloc hbw5.size _⟩
          rw [<- HXR.out]
          exact HET.out.later ((Below.refl _ _).alloc (Nat.le_refl _) _)
        . have hqb : (tn.toList == bn) = false := by rw [Lib.toList_data]; simpa using hq
          go_wp2_with (first
           | (go_at_call 89; go_must (refine HNM.out.mono ?_); rintro e w6 ⟨rfl, h6⟩; have h6' := h6.symm; subst h6'))
          go_roundw
          case rel =>
           refine ⟨t + 1, hlt, by simp, ?_, by first | rfl | trivial⟩
           unfold Hid; rw [HTK.out]; intro y hy
           rcases List.mem_append.1 hy with h | h
           . exact hno.out y h
           . rw [List.mem_singleton] at h; subst h; rw [HOP.out]; simpa using hq
          case measure => simp [intOf]; omega
  . have hte : t = rs.length := by omega
    subst hte
    have hno := hno.out
    rw [List.take_length] at hno
    exfalso
    have h := HFI.out
    rw [List.find?_eq_none.2 (fun y hy => by rw [hno y hy]; simp)] at h
    cases h
theorem seek0_any (X b : Nat) (w : World) (hX : w.heap[X]? = some (.cells (fileC b 0 false).toArray 118)) : Calls Tryz.prog 68 #[PB X, .int .i64 0, .int .i64 0] w fun e w' => e = .returned (.tuple #[.int .i64 0, .nilIface]) /\ w' = w := by
 have c3 := ent_cell hX 3 _ rfl
 have c4 := ent_cell hX 4 _ rfl
 have fr := ent_frozen hX 3
 have HS := Lib.hid (set_id hX (j := 3) (v := .int .i64 0) rfl)
 clear hX
 go_enter Tryz.func68, Tryz.ntmps68
 go_wp2
 rw [HS.out]
 go_ret2
 exact ⟨rfl, rfl⟩
theorem close_any (X b n : Nat) (cl : Bool) (w : World) (hX : w.heap[X]? = some (.cells (fileC b n cl).toArray 118)) : Calls Tryz.prog 70 #[PB X] w fun e w' => e = .returned .nilIface /\ w' = w.setCell ⟨X, 4, none⟩ (.bool true) := by
 have c4 := ent_cell hX 4 _ rfl
 have fr := ent_frozen hX 4
 clear hX
 go_enter Tryz.func70, Tryz.ntmps70
 go_wp2
 go_ret
 exact ⟨rfl, rfl⟩
theorem own_blk {w w' : World} {B : Nat} {v : Value} {l : List UInt8} (h : Own w B v l) (e : ∀ k, v.ownBlock = some k -> w'.heap[k]? = w.heap[k]?) : Own w' B v l :=
 ⟨h.1, h.2.imp id fun ⟨g, cap, cur, hv, h1, h2, h3⟩ => ⟨g, cap, cur, hv, h1, by rw [e g (by rw [hv]; rfl)]; exact h2, h3⟩⟩
theorem ahead_ReadAt (a : Addr) (w : World) : (nilAhead 510 107 (.pointer (some a)) "ReadAt").run Tryz.prog w = .ok (some false) w := by kernel_rfl
abbrev EofV (E : Addr) : Value := .iface 214 (.pointer (some E))
theorem fread_any (F M D PT RD X b g c n B L : Nat) (E : Addr) (r : Rec) (l img : List UInt8) (ms : List Node) (ds : List Nat) (w : World) (hW : FsW w F M D PT RD img ms ds) (hX : w.heap[X]? = some (.cells (fileC b 0 false).toArray 118)) (hE : EntAt w b r (PB F)) (hrn : r.s = n) (hrl : r.e = L) (h0 : 0 < n) (hn : n <= 2000000) (hL : L < 400000) (hfit : L * 2048 + n <= img.length) (hlen : img.length <= 1000000000)
 (hXB : X < B) (hbB : b < B) (hFB : F < B) (hBw : B <= w.heap.size) (hl : l.length = n) (hO : Own w B (.slice (some ⟨g, 0, none⟩) n c) l) (hG : w.cell? ⟨0, 0, none⟩ = some (EofV E)) (hX0 : 0 < X) :
 Calls Tryz.prog 69 #[PB X, .slice (some ⟨g, 0, none⟩) n c] w fun e w' => e = .returned (.tuple #[.int .i64 n, EofV E]) /\ Own w' B (.slice (some ⟨g, 0, none⟩) n c) ((img.drop (L * 2048)).take n) /\ w'.heap[X]? = some (.cells (fileC b n false).toArray 118) /\ ∀ K, K <= X -> Below K w w' := by
 have c0 := ent_cell hX 0 _ rfl
 have c3 := ent_cell hX 3 _ rfl
 have c4 := ent_cell hX 4 _ rfl
 have e1 := hE.cells.e
 have e2 := hE.cells.s
 have e16 := hE.cells.fs
 rw [hrl] at e1
 rw [hrn] at e2
 have f4 := hW.back
 have f5 := hW.p.blk
 have m1 := method_ReadAt ⟨M, 0, none⟩
 have m2 := ahead_ReadAt ⟨M, 0, none⟩
 have hnI : (n : Int) <= 2000000 := by omega
 have hLI : (L : Int) < 400000 := by omega
 have h0I : decide ((n : Int) <= 0) = false := by simp; omega
 have HW := Lib.hid hW; have HX := Lib.hid hX; have HE := Lib.hid hE; have HO := Lib.hid hO; have HL := Lib.hid hl; have HRN := Lib.hid hrn
 clear hW hX hE hO hl hrn hrl
 go_enter Tryz.func69, Tryz.ntmps69
 go_upto_region 4 with (fail)
 go_quiet (fail)
 have hq1 : Below w.heap.size w (w.drewN nq) := below_drewN (Below.refl _ _) _
 have hq2 : (w.drewN nq).heap = w.heap := rfl
 generalize hwq : w.drewN nq = w1
 rw [hwq] at hq1 hq2
 clear hwq
 have hcc : ∀ a, w1.cell? a = w.cell? a := fun a => by simp only [World.cell?, hq2]
 replace c0 := (hcc _).trans c0; replace c3 := (hcc _).trans c3; replace c4 := (hcc _).trans c4; replace e1 := (hcc _).trans e1; replace e2 := (hcc _).trans e2; replace e16 := (hcc _).trans e16; replace f4 := (hcc _).trans f4; replace f5 := (hcc _).trans f5; replace hG := (hcc _).trans hG
 have hs1 : w1.heap.size = w.heap.size := by rw [hq2]
 have HQ2 := Lib.hid hq2; have HS1 := Lib.hid hs1
 clear hcc hq2 hs1
 clear hnI hLI
 go_upto_region 12 with (fail)
 have zE : IntKind.i64.wrap (IntKind.i64.wrap ((L : Int) * 2048)) = ((L * 2048 : Nat) : Int) := by
  rw [wrap_small ((L : Int) * 2048) (by omega) (by omega), wrap_small _ (by omega) (by omega)]; omega
 have HZ := Lib.hid zE
 clear zE
 have hMl := HW.out.mlt; have hDl := HW.out.dlt
 have hb1 : Below B w w1 := hq1.mono hBw
 have hO1 : Own w1 B (.slice (some ⟨g, 0, none⟩) n c) l := own_blk HO.out (fun k _ => by rw [HQ2.out])
 have HO1 := Lib.hid hO1
 have hW1 := HW.out.later hq1
 have HW1 := Lib.hid hW1
 have hB1 : B <= w1.heap.size := by rw [HS1.out]; exact hBw
 clear hO1 hW1
 have hnc : n <= c := by have h := HO1.out; unfold Own at h; rw [HL.out] at h; exact row_cap h h0
 have hncI : (n : Int) <= (c : Int) := by omega
 have hn0I : (0 : Int) <= (n : Int) := by omega
 go_region_held3 (fun W => W.cell? ⟨F, 5, none⟩ = some (.int .i64 2048) /\ W.cell? ⟨X, 3, none⟩ = some (.int .i64 0)) (first | exact ⟨f5, c3⟩ | go_keep | exact ⟨(hb4.cell (p := ⟨F, 5, none⟩) hFB).trans f5, (hb4.cell (p := ⟨X, 3, none⟩) hXB).trans c3⟩) (first
  | (go_at_call 185; go_must (refine (readAt_z M D B g c (L * 2048) n _ img l _ HZ.out (HW1.out.later (Below.refl _ _).drew).mem HL.out (own_blk HO1.out (fun k _ => rfl)) h0 hfit hlen (by exact hB1)).mono ?_); go_must (rintro e w4 ⟨rfl, hO4, hb4⟩)))
 have hb14 : Below B w w4 := (hb1.trans (Below.refl _ _).drew).trans hb4
 have HO4 := Lib.hid hO4
 have x4 : w4.heap[X]? = some (.cells (fileC b 0 false).toArray 118) := (hb14.block X hXB).trans HX.out
 have hE4 := HE.out.keep hb14 hbB
 have g4 : w4.cell? ⟨0, 0, none⟩ = some (EofV E) := (hb4.cell (p := ⟨0, 0, none⟩) (by show 0 < B; omega)).trans hG
 have c3' := ent_cell x4 3 _ rfl
 have fr3 := ent_frozen x4 3
 have X4 := Lib.hid x4; have HE4 := Lib.hid hE4
 clear hO4 x4 hE4 c0 c3 c4 e1 e2 e16 f4 f5 hG hncI hn0I
 go_upto_region 17 with (fail)
 have hbX : b ≠ X := by
  rintro rfl
  obtain ⟨x, a, X', co, _, h⟩ := HE4.out
  rw [X4.out] at h; injection h with h; injection h with _ h; exact absurd h (by decide)
 have x5 : (w4.setCell ⟨X, 3, none⟩ (.int .i64 n)).heap[X]? = some (.cells (fileC b n false).toArray 118) := heap_setCell_same w4 X 3 _ 118 (.int .i64 n) X4.out
 have ho5 : ∀ k, k ≠ X -> (w4.setCell ⟨X, 3, none⟩ (.int .i64 n)).heap[k]? = w4.heap[k]? := fun k hk => heap_setCell_other w4 ⟨X, 3, none⟩ k _ hk
 have hE5 : EntAt (w4.setCell ⟨X, 3, none⟩ (.int .i64 n)) b r (PB F) := by
  obtain ⟨x, a, X', co, ht, h⟩ := HE4.out
  exact ⟨x, a, X', co, ht, (ho5 b hbX).trans h⟩
 have g5 : (w4.setCell ⟨X, 3, none⟩ (.int .i64 n)).cell? ⟨0, 0, none⟩ = some (EofV E) := by
  rw [<- g4]; simp only [World.cell?]; rw [ho5 0 (by omega)]
 have hs5 : ∀ K, K <= X -> Below K w (w4.setCell ⟨X, 3, none⟩ (.int .i64 n)) := fun K hK => (hb14.mono (by omega)).setCell hK _
 have hO5 : Own (w4.setCell ⟨X, 3, none⟩ (.int .i64 n)) B (.slice (some ⟨g, 0, none⟩) n c) ((img.drop (L * 2048)).take n) := own_blk HO4.out (fun k hk => ho5 k (by
  have := World.ownsRow.lt HO4.out k hk; omega))
 have HFIN := Lib.hid (And.intro hO5 (And.intro x5 hs5))
 generalize hw5 : w4.setCell ⟨X, 3, none⟩ (.int .i64 n) = w5 at x5 hE5 g5 HFIN ⊢
 have c0 := ent_cell x5 0 _ rfl
 have c3 := ent_cell x5 3 _ rfl
 have e2 := hE5.cells.s
 rw [HRN.out] at e2
 clear hw5 x5 hE5 hs5 hO5 g4 c3' fr3 ho5 hb4 hb14 hb1 hq1
 have hnI : (n : Int) <= 2000000 := by omega
 go_quiet (fail)
 clear hnI
 have g6 : (w5.drewN nq).cell? ⟨0, 0, none⟩ = some (EofV E) := g5
 have HF2 : Hid (Own (w5.drewN nq) B (.slice (some ⟨g, 0, none⟩) n c) ((img.drop (L * 2048)).take n) /\ (w5.drewN nq).heap[X]? = some (.cells (fileC b n false).toArray 118) /\ ∀ K, K <= X -> Below K w (w5.drewN nq)) := ⟨HFIN.out.1, HFIN.out.2.1, fun K hK => below_drewN (HFIN.out.2.2 K hK) _⟩
 generalize w5.drewN nq = w6 at g6 HF2 ⊢
 clear c0 c3 e2 g5
 go_wp2
 go_ret2
 exact ⟨rfl, HF2.out.1, HF2.out.2.1, HF2.out.2.2⟩
end Go.Proofs.YtilgpaeeleknhaaGreatDoor
