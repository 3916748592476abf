/- A part of the proof of laws.FnIsoRock (see the last text). -/
import Derived.Test.YtilgpaeeleknhaaGreatDoorJr50
import Derived.Test.YtilgpaeeleknhaaGreatDoorTie
import Derived.Test.YtilgpaeeleknhaaGreatDoorCards
import Derived.SevenTiedAt
import Derived.Stop.Joined
set_option linter.unusedSimpArgs false
set_option linter.unusedVariables false
set_option maxRecDepth 1000000
set_option maxHeartbeats 8000000
namespace Go.Proofs.YtilgpaeeleknhaaGreatDoor
section
open Go Go.RowKit Go.ChangeShapes Go.WideShapes Go.ChangeAt
theorem wordsFact00 : (Rows.fnIsoWordsRow.wf (OpenSpec.ofChange Rows.fnIsoWordsSpec)) = true := by kernel_rfl
theorem wordsFact01 : (laidOutB Tryz.prog) = true := by kernel_rfl
theorem wordsFact02 : (mapsRowed Tryz.prog) = true := by kernel_rfl
theorem wordsFact03 : (Tryz.f4.params.all (Tryz.prog.readableRec ·)) = true := by kernel_rfl
theorem wordsFact04 : (namedTie Tryz.prog Rows.fnIsoWordsRow.named Rows.fnIsoWordsSpec.vars) = true := by kernel_rfl
theorem wordsFact05 : ((Rows.fnIsoWordsRow.stops == [])) = true := by kernel_rfl
theorem wordsFact06 : ((Tryz.prog.stops == [])) = true := by kernel_rfl
theorem wordsFact07 : ((Rows.fnIsoWordsRow.knobs == [])) = true := by kernel_rfl
theorem wordsFact08 : ((Tryz.prog.stopKnobs == [])) = true := by kernel_rfl
theorem wordsFact09 : ((Rows.fnIsoWordsRow.inPlace == Tryz.prog.inPlace 4)) = true := by kernel_rfl
theorem wordsFact10 : ((Rows.fnIsoWordsRow.unfollowed == Tryz.prog.unfollowed 4)) = true := by kernel_rfl
theorem wordsFact11 : ((Rows.fnIsoWordsRow.recurses == Tryz.prog.recurses 4)) = true := by kernel_rfl
theorem wordsFact12 : ((Rows.fnIsoWordsRow.named == Tryz.prog.varsNamed 4)) = true := by kernel_rfl
theorem wordsFact13 : ((Rows.fnIsoWordsRow.maps == (Tryz.f4.params.toList ++ Rows.fnIsoWordsSpec.plain.varTypes Tryz.prog).any (Tryz.prog.mapsRec ·))) = true := by kernel_rfl
theorem wordsFact14 : ((Rows.fnIsoWordsRow.ifaces == (Tryz.f4.params.toList ++ Rows.fnIsoWordsSpec.plain.varTypes Tryz.prog).any (Tryz.prog.ifacesRec ·))) = true := by kernel_rfl
theorem wordsFact15 : ((Rows.fnIsoWordsRow.mapsOut == Tryz.prog.mapsAmong Tryz.f4.resultTypes.toList)) = true := by kernel_rfl
theorem wordsFact16 : ((Rows.fnIsoWordsRow.loops == (Tryz.f4.params.toList ++ Rows.fnIsoWordsSpec.plain.varTypes Tryz.prog).any (Tryz.prog.loopsFrom ·))) = true := by kernel_rfl
theorem wordsFact17 : ((Rows.fnIsoWordsRow.wideKeys == (Tryz.f4.params.toList ++ Rows.fnIsoWordsSpec.plain.varTypes Tryz.prog ++ Tryz.f4.resultTypes.toList).any (Tryz.prog.wideKeysFrom ·))) = true := by kernel_rfl
theorem wordsFact18 : (Rows.fnIsoWordsSpec.vars.all (Tryz.prog.varReadable ·)) = true := by kernel_rfl
theorem wordsFact19 : (Tryz.f4.resultTypes.all (fun t => Tryz.prog.readableRec t && decide (t < Tryz.prog.types.size))) = true := by kernel_rfl
theorem wordsFact20 : ((Rows.fnIsoWordsRow.ifacesOut == Tryz.f4.resultTypes.toList.any (Tryz.prog.ifacesRec ·))) = true := by kernel_rfl
theorem wordsFact21 : ((Rows.fnIsoWordsRow.loopsOut == Tryz.f4.resultTypes.toList.any (Tryz.prog.loopsFrom ·))) = true := by kernel_rfl
theorem wordsFact22 : ((Rows.fnIsoWordsRow.plainKeys == Tryz.prog.plainKeys)) = true := by kernel_rfl
theorem wordsFact23 : (Rows.fnIsoWordsRow.shortTexts.isNone) = true := by kernel_rfl
theorem wordsFact24 : (Tryz.prog.stopsHeard) = true := by kernel_rfl
theorem wordsFact25 : (Tryz.prog.mayEnter) = true := by kernel_rfl
theorem wordsFact26 : ((Rows.fnIsoWordsRow.lifted == Tryz.prog.liftsFinal)) = true := by kernel_rfl
theorem wordsFact27 : ((Tryz.prog.make == some Rows.fnIsoWordsRow.make)) = true := by kernel_rfl
theorem wordsFact28 : ((Rows.fnIsoWordsRow.kinds == (if Rows.fnIsoWordsRow.domain.isEmpty then [] else Tryz.f4.params.toList.map fun t => match Tryz.prog.underlying t with | some (.int k) => some k | _ => none))) = true := by kernel_rfl
theorem wordsFact29 : ((Rows.fnIsoWordsRow.pinned == Rows.fnIsoWordsRow.pinnedBy)) = true := by kernel_rfl
theorem wordsFact30 : ((Rows.fnIsoWordsRow.veiled == (Tryz.f4.params.toList ++ Rows.fnIsoWordsSpec.plain.varTypes Tryz.prog ++ Tryz.f4.resultTypes.toList).any (Tryz.prog.veiledRec ·))) = true := by kernel_rfl
theorem wordsFact31 : (Rows.fnIsoWordsRow.veiledFits Tryz.prog Tryz.f4.params.toList (Tryz.f4.params.toList ++ Rows.fnIsoWordsSpec.plain.varTypes Tryz.prog ++ Tryz.f4.resultTypes.toList)) = true := by kernel_rfl
theorem wordsName : Tryz.prog.funcNamed "given.example/pub-garboard/laws.FnIsoWords" = some 4 := by kernel_rfl
theorem wordsInst : Tryz.f4.isInstance Tryz.prog Rows.fnIsoWordsRow.origin Rows.fnIsoWordsRow.targs := of_decide_eq_true (by kernel_rfl)
theorem wordsWrap : Tryz.f4.isWrapper Tryz.prog Rows.fnIsoWordsRow.wrapper Rows.fnIsoWordsRow.mainSum := by unfold Func.isWrapper; first | (rw [if_pos (by decide +kernel)]; kernel_rfl) | (rw [if_neg (by decide +kernel)]; exact ⟨rfl, rfl⟩)
theorem wordsByText : Rows.fnIsoWordsRow.wfByText (OpenSpec.ofChange Rows.fnIsoWordsSpec) = true := by kernel_rfl
theorem wordsMain : Tryz.prog.mainIs = some (true, "b0240fe3b9203247f03b7689ddbffcd335328b61a8febba830cdb4a711ad05c8".toList) := by kernel_rfl
theorem wordsLooks : true = Tryz.prog.looks [] := by kernel_rfl
theorem wordsStand : ([22].all fun u => !Tryz.prog.wantsStandIn u) = true := by kernel_rfl
theorem wordsGoes : false = Rows.fnIsoWordsRow.goesBy Tryz.prog := by kernel_rfl
end
end Go.Proofs.YtilgpaeeleknhaaGreatDoor
