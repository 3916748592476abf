/-
  DERIVED. A part of the proof of laws.FnIsoPaths (for every input the law returns true and each argument reads as before; the listed variables read as listed when the call begins). It holds:
  · DERIVED. The row of laws.FnIsoPaths: whatever the input, true; the input reads as it did.
-/
import Derived.Test.YtilgpaeeleknhaaGreatDoorIq50
import Derived.SizedLaws
section
namespace Go.Proofs.YtilgpaeeleknhaaGreatDoor
open Go Go.RowKit Go.ChangeShapes Go.WideShapes Go.ChangeAt Go.Deep
theorem laid_tabs {W : World} (h : laidMetH Tryz.prog Rows.fnIsoPathsRow.laid W) : Tabs W ∧ ∃ E, W.cell? ⟨0, 0, none⟩ = some (EofV E) := by
  rw [MakeChecks.laidMetH_plain _ _ _ (by kernel_rfl)] at h
  constructor
  · have hf := Lib.laidMet.reads h (n := "unicode/utf8.first") (d := Rows.laid_unicode_utf8_first) (by simp [Rows.fnIsoPathsRow])
    have ha := Lib.laidMet.reads h (n := "unicode/utf8.acceptRanges") (d := Rows.laid_unicode_utf8_acceptRanges) (by simp [Rows.fnIsoPathsRow])
    rw [first_data] at hf
    rw [acc_data] at ha
    exact utf8Tabs_of_readsT (U8Types.of196 Tryz.laysValid) u8Extra hf ha
  · obtain ⟨a, s, hv, _, _, _⟩ := laid_sentinel h.tail eof_glob eof_type Tryz.underlying104 eof_row Tryz.underlying214 Tryz.underlying216 rfl rfl Tryz.underlying9 cells216 cells9
    exact ⟨a, by simpa using World.var?_cell eof_glob hv 0⟩
set_option maxRecDepth 100000 in
set_option maxHeartbeats 4000000 in
theorem paths_lifted (os : Os) (started : os.Started) (H : Type) (enc : TypeId × Value → H) :
    ReturnsInHanded {} Tryz.checked os 5 .any (fun w args => (Rows.fnIsoPathsSpec.pre enc Tryz.prog Tryz.f5 Rows.fnIsoPathsRow.domain false w args ∧ laidMetH Tryz.prog Rows.fnIsoPathsRow.laid w) ∧ sizedMet enc Tryz.prog Tryz.f5 (OpenSpec.ofChange Rows.fnIsoPathsSpec) false w args)
      (Rows.fnIsoPathsSpec.post enc Tryz.prog Tryz.f5 false true false false) := by
  refine returnsInHanded_of_change_and (C := Tryz.checked) (X := fun w _ => laidMetH Tryz.prog Rows.fnIsoPathsRow.laid w) (fun _ _ _ hh h => h.of_heap hh) own_tryz started (by kernel_rfl) Tryz.func5
    (ChangeSpec.witness_shaped (enc := enc) (C := Tryz.checked) (os := os) (X := fun w _ => laidMetH Tryz.prog Rows.fnIsoPathsRow.laid w) false (World.laidAll Tryz.prog os Rows.fnIsoPathsRow.laid) #[.slice none 0 0, .int .u8 0] 8 (World.laidAll_os _ _ _)
      (World.shaped_of_ZipB (by kernel_rfl) (by kernel_rfl)) (by kernel_rfl) (by kernel_rfl) (by kernel_rfl)
      (by rw [MakeChecks.laidMetH_plain _ _ _ (by kernel_rfl)]; exact laidMet_laidAll _ (fits_tryz os) (ifaces_tryz os))) ?_
  intro W base args ds gs before hval0 hW _ hz hL _
  have hval : ∀ (j : Nat) t v, Tryz.f5.params[j]? = some t → args[j]? = some v → Value.okWide Tryz.prog W .any base t v := hval0
  have hsz : (DataW.weightsEach Tryz.prog (Tryz.f5.params.toList ++ Rows.fnIsoPathsSpec.plain.varTypes Tryz.prog) (ds ++ gs)).all (· ≤ reachBytes) = true := hz
  have hW' := hW
  obtain ⟨p, q, hA0, hV, rfl, _, _⟩ := hW
  have hA : DataW.TrodAll enc Tryz.prog W 0 (fun _ => true) true Tryz.f5.params.toList args.toList ds p := hA0
  rw [Tryz.params5] at hA hval hsz
  obtain ⟨v0, v1, d0, d1, p0, p1, rfl, rfl, rfl, h0, h1⟩ := trodAll_two hA
  obtain ⟨rfl, rfl⟩ := trodVars_none hV
  obtain ⟨x, rfl, rfl, rfl, wx⟩ := open_int Tryz.underlying5 (hval 1 5 v1 rfl rfl) h1
  obtain ⟨A0, len, cap0, rfl⟩ := okWide_slice Tryz.underlying22 (hval 0 22 v0 rfl rfl)
  have h0k := h0
  obtain ⟨fuel0, hf⟩ := h0
  obtain ⟨A, fs, cap, hcs, hcap, hA1, htm, hsl⟩ := open_files hf
  have hcs' : Value.slice A0 len cap0 = .slice A fs.length cap := by simpa [Value.cells] using hcs
  obtain ⟨e1, e2, e3⟩ : A0 = A ∧ len = fs.length ∧ cap0 = cap := by simpa using hcs'
  subst e1; subst e2; subst e3
  have hl : fs.length ≤ 4611686018427387904 := by
    rcases hsl with rfl | ⟨el, sp, e, hel⟩
    · exact Nat.zero_le _
    · have := sized_slice hsz (j := 0) (elems := el) (spare := sp) rfl (by simpa using e) Tryz.underlying22
      have hr := reachBytes_lt
      rw [bytes37] at this
      omega
  have hx : 0 ≤ x ∧ x ≤ 255 := wf_kind rfl rfl wx
  obtain ⟨r, rfl⟩ : ∃ r : Nat, x = r := ⟨x.toNat, by omega⟩
  obtain ⟨hT, E, hG⟩ := laid_tabs hL
  have hlt : ∀ y ∈ p0, y.block < W.heap.size := fun y hy => by simpa using hW'.lt y (List.mem_append_left _ (List.mem_append_left _ hy))
  refine (fnPaths_any _ E r _ fs W hA1 hl hcap htm (by omega) hT hG).mono fun e W' ⟨he, bel⟩ => ?_
  subst he
  refine ⟨_, rfl, _, _, _, [], p0 ++ [], [], hW', ?_, ?_, rfl, bel.frame _, fun h => by cases h⟩
  · exact trodAll_mk1 (shut_bool Tryz.underlying4 _)
  · exact trodAll_mk2 (Below.trod laidOut_tryz rec22 in22 h0k bel hlt) (shut_int Tryz.underlying5 wx)
end Go.Proofs.YtilgpaeeleknhaaGreatDoor
end
