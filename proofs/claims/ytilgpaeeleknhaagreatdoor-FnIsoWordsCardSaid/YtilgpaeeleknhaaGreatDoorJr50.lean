/- A part of the proof of laws.FnIsoRock (see the last text). -/
import Derived.Test.YtilgpaeeleknhaaGreatDoorJr43
import Derived.Test.YtilgpaeeleknhaaGreatDoorJr49
import Derived.SizedLaws
set_option linter.unusedSimpArgs false
set_option linter.unusedVariables false
set_option maxRecDepth 1000000
set_option maxHeartbeats 8000000
namespace Go.Proofs.YtilgpaeeleknhaaGreatDoor
section
open Go Go.RowKit Go.ChangeShapes Go.WideShapes Go.ChangeAt Go.Deep
theorem fits_words (os : Os) : (World.holding Tryz.prog os ⟨#[], #[], []⟩).layFits Tryz.prog Rows.fnIsoWordsRow.laid [] = true := by kernel_rfl
theorem ifaces_words (os : Os) : (World.holding Tryz.prog os ⟨#[], #[], []⟩).layIfaces Tryz.prog Rows.fnIsoWordsRow.laid (World.laidAll Tryz.prog os Rows.fnIsoWordsRow.laid) = true := by kernel_rfl
theorem laid_words {W : World} (h : laidMetH Tryz.prog Rows.fnIsoWordsRow.laid W) : Tabs W /\ ∃ E, W.cell? ⟨0, 0, none⟩ = some (EofV E) := by
 rw [MakeChecks.laidMetH_plain _ _ _ (by kernel_rfl)] at h
 constructor
 . have hf := Lib.laidMet.reads h (n := "unicode/utf8.first") (d := Rows.laid_unicode_utf8_first) (by simp [Rows.fnIsoWordsRow])
   have ha := Lib.laidMet.reads h (n := "unicode/utf8.acceptRanges") (d := Rows.laid_unicode_utf8_acceptRanges) (by simp [Rows.fnIsoWordsRow])
   rw [first_data] at hf
   rw [acc_data] at ha
   exact utf8Tabs_of_readsT (U8Types.of196 Tryz.laysValid) u8Extra hf ha
 . obtain ⟨a, s, hv, _, _, _⟩ := laid_sentinel h.tail eof_glob eof_type Tryz.underlying104 eof_row Tryz.underlying214 Tryz.underlying216 rfl rfl Tryz.underlying9 cells216 cells9
   exact ⟨a, by simpa using World.var?_cell eof_glob hv 0⟩
theorem words_lifted (os : Os) (started : os.Started) (H : Type) (enc : TypeId × Value -> H) :
 ReturnsInHanded {} Tryz.checked os 4 .any (fun w args => (Rows.fnIsoWordsSpec.pre enc Tryz.prog Tryz.f4 Rows.fnIsoWordsRow.domain false w args /\ laidMetH Tryz.prog Rows.fnIsoWordsRow.laid w) /\ sizedMet enc Tryz.prog Tryz.f4 (OpenSpec.ofChange Rows.fnIsoWordsSpec) false w args)
  (Rows.fnIsoWordsSpec.post enc Tryz.prog Tryz.f4 false true false false) := by
 refine returnsInHanded_of_change_and (C := Tryz.checked) (X := fun w _ => laidMetH Tryz.prog Rows.fnIsoWordsRow.laid w) (fun _ _ _ hh h => h.of_heap hh) own_tryz started (by kernel_rfl) Tryz.func4
  (ChangeSpec.witness_shaped (enc := enc) (C := Tryz.checked) (os := os) (X := fun w _ => laidMetH Tryz.prog Rows.fnIsoWordsRow.laid w) false (World.laidAll Tryz.prog os Rows.fnIsoWordsRow.laid) #[.slice none 0 0] 8 (World.laidAll_os _ _ _)
    (World.shaped_of_ZipB (by kernel_rfl) (by kernel_rfl)) (by kernel_rfl) (by kernel_rfl) (by kernel_rfl)
    (by rw [MakeChecks.laidMetH_plain _ _ _ (by kernel_rfl)]; exact laidMet_laidAll _ (fits_words os) (ifaces_words os))) ?_
 intro W base args ds gs before hval0 hW _ hz hL _
 have hval : ∀ (j : Nat) t v, Tryz.f4.params[j]? = some t -> args[j]? = some v -> Value.okWide Tryz.prog W .any base t v := hval0
 have hsz : (DataW.weightsEach Tryz.prog (Tryz.f4.params.toList ++ Rows.fnIsoWordsSpec.plain.varTypes Tryz.prog) (ds ++ gs)).all (· <= reachBytes) = true := hz
 have hW' := hW
 obtain ⟨p, q, hA0, hV, rfl, _, _⟩ := hW
 have hA : DataW.TrodAll enc Tryz.prog W 0 (fun _ => true) true Tryz.f4.params.toList args.toList ds p := hA0
 rw [Tryz.params4] at hA hval hsz
 obtain ⟨v0, d0, rfl, rfl, h0⟩ := trodAll_one hA
 obtain ⟨rfl, rfl⟩ := trodVars_none hV
 obtain ⟨A0, len, cap0, rfl⟩ := okWide_slice Tryz.underlying22 (hval 0 22 v0 rfl rfl)
 have h0k := h0
 obtain ⟨fuel0, hf⟩ := h0
 obtain ⟨A, fs, cap, hcs, hcap, hA1, htm, hsl⟩ := open_files hf
 have hcs' : Value.slice A0 len cap0 = .slice A fs.length cap := by simpa [Value.cells] using hcs
 obtain ⟨e1, e2, e3⟩ : A0 = A /\ len = fs.length /\ cap0 = cap := by simpa using hcs'
 subst e1; subst e2; subst e3
 have hl : fs.length <= 4611686018427387904 := by
  rcases hsl with rfl | ⟨el, sp, e, hel⟩
  . exact Nat.zero_le _
  . have := sized_slice hsz (j := 0) (elems := el) (spare := sp) rfl (by simpa using e) Tryz.underlying22
    have hr := reachBytes_lt
    rw [bytes37] at this
    omega
 obtain ⟨hT, E, hG⟩ := laid_words hL
 have hlt : ∀ y ∈ p, y.block < W.heap.size := fun y hy => by simpa using hW'.lt y (List.mem_append_left _ hy)
 refine (fnWords_any _ E _ fs W hA1 hl hcap (fun f hf => ⟨(htm f hf).perm, (htm f hf).uid, (htm f hf).gid⟩) hT hG).mono fun e W' ⟨he, bel⟩ => ?_
 subst he
 refine ⟨_, rfl, _, _, _, [], p, [], hW', ?_, ?_, rfl, bel.frame _, fun h => by cases h⟩
 . exact trodAll_mk1 (shut_bool Tryz.underlying4 _)
 . exact trodAll_mk1 (Below.trod laidOut_tryz rec22 in22 h0k bel hlt)
end
end Go.Proofs.YtilgpaeeleknhaaGreatDoor
