/-
  DERIVED. A part of the proof of laws.FnIsoPaths (for every input the law returns true and each argument reads as before; the listed variables read as listed when the call begins). It holds:
  · Walks: ReadDir.
  · Walks: Stat.
-/
import Derived.Test.YtilgpaeeleknhaaGreatDoorIq33
import Derived.Test.YtilgpaeeleknhaaGreatDoorIq35
section
namespace Go.Proofs.YtilgpaeeleknhaaGreatDoor
open Go Go.RowKit
set_option linter.unusedSimpArgs false
set_option linter.unusedVariables false

abbrev IB (b : Nat) : Value := .iface 116 (PB b)
theorem info133 : (Tryz.prog.info? 133).map (fun i => (i.zero.map (·.cells.size), i.size, i.bytes)) = some (some 1, 1, 16) := by kernel_rfl
theorem under130 : Tryz.prog.underlying 130 = some (.slice 133) := by kernel_rfl
/-- The records that are told: all but the directory itself and its parent. -/
def tellR (rs : List Rec) : List Rec := rs.filter fun r => !(r.self || r.par)
theorem tellR_snoc_no (rs : List Rec) (r : Rec) (h : (r.self || r.par) = true) : tellR (rs ++ [r]) = tellR rs := by
  unfold tellR; rw [List.filter_append, List.filter_cons, h]; simp
theorem tellR_snoc_yes (rs : List Rec) (r : Rec) (h : (r.self || r.par) = false) : tellR (rs ++ [r]) = tellR rs ++ [r] := by
  unfold tellR; rw [List.filter_append, List.filter_cons, h]; simp
theorem readDirectory_ok (F : Nat) (p : ByteArray) (rs : List Rec) (w : World) (hj : w.cell? ⟨F, 14, none⟩ = some (.bool false)) (hr : Calls Tryz.prog 112 #[PB F, .string p] w fun e w' => DirR w w' F rs e) :
    Calls Tryz.prog 85 #[PB F, .string p] w fun e w' => DirR w w' F rs e := by
  have HR := Lib.hid hr
  clear hr
  go_enter Tryz.func85, Tryz.ntmps85
  go_wp2_with (go_at_call 112; refine HR.out.mono ?_; rintro e w2 ⟨A, co, bs, rfl, h1, h2, h3, h4⟩)
  go_ret2
  exact ⟨A, co, bs, rfl, h1, h2, h3, h4⟩
theorem readDirectory_err (F : Nat) (p : ByteArray) (w : World) (hj : w.cell? ⟨F, 14, none⟩ = some (.bool false)) (hr : Calls Tryz.prog 112 #[PB F, .string p] w fun e w' => (∃ b, e = .returned (.tuple #[.slice none 0 0, .iface 214 (PB b)])) ∧ Below w.heap.size w w') :
    Calls Tryz.prog 85 #[PB F, .string p] w fun e w' => (∃ b, e = .returned (.tuple #[.slice none 0 0, .iface 214 (PB b)])) ∧ Below w.heap.size w w' := by
  have HR := Lib.hid hr
  clear hr
  go_enter Tryz.func85, Tryz.ntmps85
  go_wp2_with (go_at_call 112; refine HR.out.mono ?_; rintro e w2 ⟨⟨b, rfl⟩, h4⟩)
  go_ret2
  exact ⟨⟨b, rfl⟩, h4⟩
/-- What ReadDir hands over. -/
def ListR (w w' : World) (F : Nat) (rs : List Rec) (e : Ending) : Prop := ∃ A co bs, e = .returned (.tuple #[.slice A rs.length co, .nilIface]) ∧ w'.ownsRow w.heap.size 133 1 (.slice A rs.length co) rs.length (bs.map IB) ∧ Ents w' bs rs (PB F) ∧ (∀ b ∈ bs, w.heap.size ≤ b) ∧ Below w.heap.size w w'
set_option maxRecDepth 100000 in
set_option maxHeartbeats 4000000 in
theorem readDir_any (F : Nat) (p : ByteArray) (rs : List Rec) (w : World) (hF : F < w.heap.size) (hw : w.cell? ⟨F, 1, none⟩ = some (.string ⟨#[]⟩)) (hrl : rs.length ≤ 1000)
    (hv : Calls Tryz.prog 82 #[.string p] w fun e w' => e = .returned .nilIface ∧ Below w.heap.size w w')
    (hr : ∀ W, Below w.heap.size w W → Calls Tryz.prog 85 #[PB F, .string p] W fun e w' => DirR W w' F rs e) :
    Calls Tryz.prog 63 #[PB F, .string p] w fun e w' => ListR w w' F (tellR rs) e := by
  have HV := Lib.hid hv; have HR := Lib.hid hr
  clear hv hr
  go_enter Tryz.func63, Tryz.ntmps63
  go_wp2_with (first
    | (go_at_call 85; refine (HR.out _ hb2).mono ?_; rintro e w5 ⟨A5, c5, bs, rfl, hO5, hE5, hB5, hb5⟩; have HO5 := Lib.hid hO5; have HE5 := Lib.hid hE5; have HB5 := Lib.hid hB5; clear hO5 hE5 hB5)
    | (go_at_call 82; refine HV.out.mono ?_; rintro e w2 ⟨rfl, hb2⟩; have f1 := (hb2.cell (p := ⟨F, 1, none⟩) hF).trans hw))
  have hbw5 : Below w.heap.size w w5 := hb2.trans (hb5.mono hb2.size)
  go_loopw [7, 56] (fun ov iv wr => ∃ (t m : Nat) (A : Option Addr) (co : Nat) (cs : List Nat), t ≤ rs.length ∧ m ≤ t ∧ iv = .int .i64 t ∧ ov = .slice A m co ∧ Hid (cs.length = m) ∧ Hid (wr.ownsRow w5.heap.size 133 1 (.slice A m co) m (cs.map IB)) ∧ Hid (Ents wr cs (tellR (rs.take t)) (PB F)) ∧ Hid (∀ b ∈ cs, w.heap.size ≤ b) ∧ Below w5.heap.size w5 wr) (fun _ iv _ => rs.length - (intOf iv).toNat)
  case atStart => exact ⟨0, 0, none, 0, [], Nat.zero_le _, Nat.le_refl _, rfl, rfl, rfl, World.ownsRow_nil _ _ _ _, Ents.nil _ _, by simp [Hid], Below.refl _ _⟩
  case round =>
    obtain ⟨t, m, A, co, cs, ht, hm, rfl, rfl, hcl, hO, hE, hB, hb⟩ := hrel
    by_cases hlt : t < rs.length
    · obtain ⟨x, hx⟩ : ∃ x, rs[t]? = some x := ⟨_, List.getElem?_eq_getElem hlt⟩
      obtain ⟨g5, rfl, _, hg5, hc5⟩ := row_addr HO5.out (by omega)
      have htb : t < bs.length := by rw [HE5.out.1]; exact hlt
      obtain ⟨bt, hbt⟩ : ∃ bt, bs[t]? = some bt := ⟨_, List.getElem?_eq_getElem htb⟩
      have hp1 := hc5 t (PB bt) (by rw [List.getElem?_map, hbt]; rfl)
      rw [← hb.cell (p := ⟨g5, t, none⟩) hg5] at hp1
      have hEt := (HE5.out.2 t bt x hbt hx).later hb
      have htk : rs.take (t + 1) = rs.take t ++ [x] := by
        rw [← List.take_append_getElem hlt]; congr 2
        rw [List.getElem?_eq_getElem hlt] at hx; simpa using hx
      have y12 := hEt.cells.self
      have y13 := hEt.cells.par
      have hbw : w.heap.size ≤ bt := Nat.le_trans hb2.size (HB5.out bt (List.mem_of_getElem? hbt))
      have hbr := hb.size
      have HTK := Lib.hid htk; have HET := Lib.hid hEt; have HBW := Lib.hid hbw
      clear htk hx hEt hbt hc5 hbw
      cases h1 : x.self with
      | true =>
        rw [h1] at y12
        go_wp2_with (fail)
        go_roundw
        case rel => exact ⟨t + 1, m, A, co, cs, hlt, by omega, by simp, rfl, hcl, hO, by unfold Hid; rw [HTK.out, tellR_snoc_no _ _ (by rw [h1]; rfl)]; exact hE, hB, hb⟩
        case measure => simp [intOf]; omega
      | false =>
        rw [h1] at y12
        cases h2 : x.par with
        | true =>
          rw [h2] at y13
          go_wp2_with (fail)
          go_roundw
          case rel => exact ⟨t + 1, m, A, co, cs, hlt, by omega, by simp, rfl, hcl, hO, by unfold Hid; rw [HTK.out, tellR_snoc_no _ _ (by rw [h1, h2]; rfl)]; exact hE, hB, hb⟩
          case measure => simp [intOf]; omega
        | false =>
          rw [h2] at y13
          go_wp2_with (at_builtin; refine asList rfl fun KK hKK => ?_; refine go_appV (w := wr) under130 info133 (by decide) (.tmp 70) (.tmp 73) rfl w5.heap.size wr.heap.size m A co (cs.map IB) (IB bt) (by rw [List.length_map]; exact hcl.out.symm) rfl hO.out ((Below.refl _ _).alloc (Nat.le_refl _) _) (by show (wr.heap.push _)[wr.heap.size]? = _; rw [Array.getElem?_push_size]) rfl rfl rfl (by omega) hbr ?_; intro A6 c6 w6 hO6 hb6 hg6; refine hKK _ _ ?_; clear hKK KK)
          go_roundw
          case rel =>
            refine ⟨t + 1, m + 1, A6, c6, cs ++ [bt], hlt, by omega, by simp, rfl, ?_, ?_, ?_, ?_, hb.trans hb6⟩
            · unfold Hid; rw [List.length_append, hcl.out]; rfl
            · unfold Hid; rw [List.map_append]; exact hO6
            · unfold Hid; rw [HTK.out, tellR_snoc_yes _ _ (by rw [h1, h2]; rfl)]
              exact Ents.grown (hE.out.snoc HET.out) hO.out (by decide) hg6
            · unfold Hid
              intro y hy
              rcases List.mem_append.1 hy with h | h
              · exact hB.out y h
              · rw [List.mem_singleton] at h; subst h; exact HBW.out
          case measure => simp [intOf]; omega
    · have hte : t = rs.length := by omega
      subst hte
      go_wp2_with (fail)
      go_ret2
      have hE := hE.out
      rw [List.take_length] at hE
      have hml : (tellR rs).length = m := by rw [← hE.1, hcl.out]
      refine ⟨A, co, cs, by rw [hml]; rfl, ?_, hE, hB.out, hbw5.trans (hb.mono hbw5.size)⟩
      rw [hml]; exact row_lower hO.out hbw5.size
theorem readDir_err (F : Nat) (p : ByteArray) (w : World) (hF : F < w.heap.size) (hw : w.cell? ⟨F, 1, none⟩ = some (.string ⟨#[]⟩))
    (hv : Calls Tryz.prog 82 #[.string p] w fun e w' => e = .returned .nilIface ∧ Below w.heap.size w w')
    (hr : ∀ W, Below w.heap.size w W → Calls Tryz.prog 85 #[PB F, .string p] W fun e w' => (∃ b, e = .returned (.tuple #[.slice none 0 0, .iface 214 (PB b)])) ∧ Below W.heap.size W w') :
    Calls Tryz.prog 63 #[PB F, .string p] w fun e w' => (∃ b, e = .returned (.tuple #[.slice none 0 0, .iface 214 (PB b)])) ∧ Below w.heap.size w w' := by
  have HV := Lib.hid hv; have HR := Lib.hid hr
  clear hv hr
  go_enter Tryz.func63, Tryz.ntmps63
  go_wp2_with (first
    | (go_at_call 76; refine (err_any _ _).mono ?_; rintro e w6 ⟨⟨b6, rfl⟩, hb6⟩)
    | (go_at_call 85; refine (HR.out _ hb2).mono ?_; rintro e w5 ⟨⟨b, rfl⟩, hb5⟩; have hbw5 := hb2.trans (hb5.mono hb2.size))
    | (go_at_call 82; refine HV.out.mono ?_; rintro e w2 ⟨rfl, hb2⟩; have f1 := (hb2.cell (p := ⟨F, 1, none⟩) hF).trans hw))
  go_ret2
  exact ⟨⟨b6, rfl⟩, hbw5.trans (hb6.mono hbw5.size)⟩
end Go.Proofs.YtilgpaeeleknhaaGreatDoor
end

section
namespace Go.Proofs.YtilgpaeeleknhaaGreatDoor
open Go Go.RowKit
set_option linter.unusedSimpArgs false
set_option linter.unusedVariables false

/-- What Stat hands over. -/
def StatR (w w' : World) (F : Nat) (rs : List Rec) (bn : List UInt8) (e : Ending) : Prop :=
  (match rs.find? (fun r => decide (r.told.data.toList = bn)) with
  | some r => ∃ b, e = .returned (.tuple #[IB b, .nilIface]) ∧ EntAt w' b r (PB F)
  | none => ∃ b, e = .returned (.tuple #[.nilIface, .iface 188 (PB b)])) ∧ Below w.heap.size w w'
theorem find_at {rs : List Rec} {bn : List UInt8} {t : Nat} {r : Rec} (h : rs[t]? = some r) (h1 : ∀ x ∈ rs.take t, x.told.data.toList ≠ bn) (h2 : r.told.data.toList = bn) : rs.find? (fun r => decide (r.told.data.toList = bn)) = some r := by
  have ht := (List.getElem?_eq_some_iff.1 h).1
  have e : rs = rs.take t ++ r :: rs.drop (t + 1) := by
    rw [← (List.getElem?_eq_some_iff.1 h).2, ← List.drop_eq_getElem_cons ht, List.take_append_drop]
  have hf : (rs.take t).find? (fun r => decide (r.told.data.toList = bn)) = none := by
    rw [List.find?_eq_none]; intro x hx; simpa using h1 x hx
  rw [e, List.find?_append, hf, List.find?_cons, decide_eq_true h2]; rfl
theorem find_none {rs : List Rec} {bn : List UInt8} (h1 : ∀ x ∈ rs, x.told.data.toList ≠ bn) : rs.find? (fun r => decide (r.told.data.toList = bn)) = none := by
  rw [List.find?_eq_none]; intro x hx; simpa using h1 x hx
set_option maxRecDepth 100000 in
set_option maxHeartbeats 4000000 in
theorem stat_any (F : Nat) (p d : ByteArray) (bn : List UInt8) (rs : List Rec) (w : World) (hF : FsP w F false) (hp : p.data.toList ≠ [46]) (hrl : rs.length ≤ 1000) (hnm : ∀ r ∈ rs, r.name.size ≤ 1000)
    (hd : ∀ W, Calls Tryz.prog 86 #[.string p] W fun e w' => e = .returned (.string d) ∧ Below W.heap.size W w')
    (hb : ∀ W, Calls Tryz.prog 87 #[.string p] W fun e w' => e = .returned (.string (ofL bn)) ∧ w' = W)
    (hr : ∀ W, Below w.heap.size w W → Calls Tryz.prog 63 #[PB F, .string d] W fun e w' => ListR W w' F rs e) :
    Calls Tryz.prog 64 #[PB F, .string p] w fun e w' => StatR w w' F rs bn e := by
  have HD := Lib.hid hd; have HB := Lib.hid hb; have HR := Lib.hid hr; have HN := Lib.hid hnm
  have KF : ∀ W, Below w.heap.size w W → FsP W F false := fun W h => hF.later h
  have HK := Lib.hid KF
  have hpb : (p.toList == [46]) = false := by rw [Lib.toList_data]; simpa using hp
  clear hd hb hr hnm KF hF hp
  go_enter Tryz.func64, Tryz.ntmps64
  go_wp2_with (first
    | (go_at_call 63; refine (HR.out _ hb2).mono ?_; rintro e w5 ⟨A5, c5, bs, rfl, hO5, hE5, hB5, hb5⟩; have HO5 := Lib.hid hO5; have HE5 := Lib.hid hE5; clear hO5 hE5 hB5)
    | (go_at_call 87; refine (HB.out _).mono ?_; rintro e w3 ⟨rfl, rfl⟩)
    | (go_at_call 86; refine (HD.out _).mono ?_; rintro e w2 ⟨rfl, hb2⟩))
  have hbw5 : Below w.heap.size w w5 := hb2.trans (hb5.mono hb2.size)
  have f11 := (HK.out _ hbw5).sus
  go_loopw [36] (fun iv wr => ∃ t : Nat, t ≤ rs.length ∧ iv = .int .i64 t ∧ Hid (∀ x ∈ rs.take t, x.told.data.toList ≠ bn) ∧ wr = w5) (fun iv _ => rs.length - (intOf iv).toNat)
  case atStart => exact ⟨0, Nat.zero_le _, rfl, by simp [Hid], rfl⟩
  case round =>
    obtain ⟨t, ht, rfl, hno, rfl⟩ := hrel
    by_cases hlt : t < rs.length
    · obtain ⟨x, hx⟩ : ∃ x, rs[t]? = some x := ⟨_, List.getElem?_eq_getElem hlt⟩
      obtain ⟨g5, rfl, _, hg5, hc5⟩ := row_addr HO5.out (by omega)
      have htb : t < bs.length := by rw [HE5.out.1]; exact hlt
      obtain ⟨bt, hbt⟩ : ∃ bt, bs[t]? = some bt := ⟨_, List.getElem?_eq_getElem htb⟩
      have hp1 := hc5 t (IB bt) (by rw [List.getElem?_map, hbt]; rfl)
      have hEt := HE5.out.2 t bt x hbt hx
      have m1 := method_Name ⟨bt, 0, none⟩
      have m2 := method_Info ⟨bt, 0, none⟩
      have htk : rs.take (t + 1) = rs.take t ++ [x] := by
        rw [← List.take_append_getElem hlt]; congr 2
        rw [List.getElem?_eq_getElem hlt] at hx; simpa using hx
      have hns := HN.out x (List.mem_of_getElem? hx)
      have HTK := Lib.hid htk; have HET := Lib.hid hEt; have HX := Lib.hid hx
      clear htk hx hEt hbt hc5
      by_cases hq : x.told.data.toList = bn
      · have hqb : (x.told.toList == bn) = true := by rw [Lib.toList_data]; simpa using hq
        have HQ := Lib.hid hq
        clear hq
        go_wp2_with (first
          | (go_at_call 186; refine (info_any _ bt).mono ?_; rintro e w7 ⟨rfl, rfl⟩)
          | (go_at_call 89; refine (name_any _ bt F x HET.out f11 hns).mono ?_; rintro e w6 ⟨rfl, rfl⟩))
        go_ret2
        refine ⟨?_, hbw5⟩
        rw [find_at HX.out hno.out HQ.out]
        exact ⟨bt, rfl, HET.out⟩
      · have hqb : (x.told.toList == bn) = false := by rw [Lib.toList_data]; simpa using hq
        go_wp2_with (first
          | (go_at_call 89; refine (name_any _ bt F x HET.out f11 hns).mono ?_; rintro e w6 ⟨rfl, rfl⟩))
        go_roundw
        case rel =>
          refine ⟨t + 1, hlt, by simp, ?_, by first | rfl | trivial⟩
          unfold Hid; rw [HTK.out]
          intro y hy
          rcases List.mem_append.1 hy with h | h
          · exact hno.out y h
          · rw [List.mem_singleton] at h; subst h; exact hq
        case measure => simp [intOf]; omega
    · have hte : t = rs.length := by omega
      subst hte
      go_wp2_with (first
        | (go_at_call 76; refine (err_any _ _).mono ?_; rintro e w6 ⟨⟨b6, rfl⟩, hb6⟩))
      go_ret2
      have hno := hno.out
      rw [List.take_length] at hno
      refine ⟨?_, (hbw5.trans (hb6.mono hbw5.size)).alloc (Nat.le_trans hbw5.size hb6.size) _⟩
      rw [find_none hno]
      exact ⟨_, rfl⟩
end Go.Proofs.YtilgpaeeleknhaaGreatDoor
end
