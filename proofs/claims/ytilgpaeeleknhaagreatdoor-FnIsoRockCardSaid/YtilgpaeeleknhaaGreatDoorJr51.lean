/- A part of the proof of laws.FnIsoRock (see the last text). -/
import Derived.Test.YtilgpaeeleknhaaGreatDoorJr50
import Derived.Test.YtilgpaeeleknhaaGreatDoorTie
import Derived.Test.YtilgpaeeleknhaaGreatDoorCards
import Derived.SevenTiedAt
import Derived.Stop.Joined
set_option linter.unusedSimpArgs false
set_option linter.unusedVariables false
set_option maxRecDepth 1000000
set_option maxHeartbeats 8000000
namespace Go.Proofs.YtilgpaeeleknhaaGreatDoor
section
open Go Go.RowKit Go.ChangeShapes Go.WideShapes Go.ChangeAt
theorem rockFact00 : (Rows.fnIsoRockRow.wf (OpenSpec.ofChange Rows.fnIsoRockSpec)) = true := by kernel_rfl
theorem rockFact01 : (laidOutB Tryz.prog) = true := by kernel_rfl
theorem rockFact02 : (mapsRowed Tryz.prog) = true := by kernel_rfl
theorem rockFact03 : (Tryz.f3.params.all (Tryz.prog.readableRec ·)) = true := by kernel_rfl
theorem rockFact04 : (namedTie Tryz.prog Rows.fnIsoRockRow.named Rows.fnIsoRockSpec.vars) = true := by kernel_rfl
theorem rockFact05 : ((Rows.fnIsoRockRow.stops == [])) = true := by kernel_rfl
theorem rockFact06 : ((Tryz.prog.stops == [])) = true := by kernel_rfl
theorem rockFact07 : ((Rows.fnIsoRockRow.knobs == [])) = true := by kernel_rfl
theorem rockFact08 : ((Tryz.prog.stopKnobs == [])) = true := by kernel_rfl
theorem rockFact09 : ((Rows.fnIsoRockRow.inPlace == Tryz.prog.inPlace 3)) = true := by kernel_rfl
theorem rockFact10 : ((Rows.fnIsoRockRow.unfollowed == Tryz.prog.unfollowed 3)) = true := by kernel_rfl
theorem rockFact11 : ((Rows.fnIsoRockRow.recurses == Tryz.prog.recurses 3)) = true := by kernel_rfl
theorem rockFact12 : ((Rows.fnIsoRockRow.named == Tryz.prog.varsNamed 3)) = true := by kernel_rfl
theorem rockFact13 : ((Rows.fnIsoRockRow.maps == (Tryz.f3.params.toList ++ Rows.fnIsoRockSpec.plain.varTypes Tryz.prog).any (Tryz.prog.mapsRec ·))) = true := by kernel_rfl
theorem rockFact14 : ((Rows.fnIsoRockRow.ifaces == (Tryz.f3.params.toList ++ Rows.fnIsoRockSpec.plain.varTypes Tryz.prog).any (Tryz.prog.ifacesRec ·))) = true := by kernel_rfl
theorem rockFact15 : ((Rows.fnIsoRockRow.mapsOut == Tryz.prog.mapsAmong Tryz.f3.resultTypes.toList)) = true := by kernel_rfl
theorem rockFact16 : ((Rows.fnIsoRockRow.loops == (Tryz.f3.params.toList ++ Rows.fnIsoRockSpec.plain.varTypes Tryz.prog).any (Tryz.prog.loopsFrom ·))) = true := by kernel_rfl
theorem rockFact17 : ((Rows.fnIsoRockRow.wideKeys == (Tryz.f3.params.toList ++ Rows.fnIsoRockSpec.plain.varTypes Tryz.prog ++ Tryz.f3.resultTypes.toList).any (Tryz.prog.wideKeysFrom ·))) = true := by kernel_rfl
theorem rockFact18 : (Rows.fnIsoRockSpec.vars.all (Tryz.prog.varReadable ·)) = true := by kernel_rfl
theorem rockFact19 : (Tryz.f3.resultTypes.all (fun t => Tryz.prog.readableRec t && decide (t < Tryz.prog.types.size))) = true := by kernel_rfl
theorem rockFact20 : ((Rows.fnIsoRockRow.ifacesOut == Tryz.f3.resultTypes.toList.any (Tryz.prog.ifacesRec ·))) = true := by kernel_rfl
theorem rockFact21 : ((Rows.fnIsoRockRow.loopsOut == Tryz.f3.resultTypes.toList.any (Tryz.prog.loopsFrom ·))) = true := by kernel_rfl
theorem rockFact22 : ((Rows.fnIsoRockRow.plainKeys == Tryz.prog.plainKeys)) = true := by kernel_rfl
theorem rockFact23 : (Rows.fnIsoRockRow.shortTexts.isNone) = true := by kernel_rfl
theorem rockFact24 : (Tryz.prog.stopsHeard) = true := by kernel_rfl
theorem rockFact25 : (Tryz.prog.mayEnter) = true := by kernel_rfl
theorem rockFact26 : ((Rows.fnIsoRockRow.lifted == Tryz.prog.liftsFinal)) = true := by kernel_rfl
theorem rockFact27 : ((Tryz.prog.make == some Rows.fnIsoRockRow.make)) = true := by kernel_rfl
theorem rockFact28 : ((Rows.fnIsoRockRow.kinds == (if Rows.fnIsoRockRow.domain.isEmpty then [] else Tryz.f3.params.toList.map fun t => match Tryz.prog.underlying t with | some (.int k) => some k | _ => none))) = true := by kernel_rfl
theorem rockFact29 : ((Rows.fnIsoRockRow.pinned == Rows.fnIsoRockRow.pinnedBy)) = true := by kernel_rfl
theorem rockFact30 : ((Rows.fnIsoRockRow.veiled == (Tryz.f3.params.toList ++ Rows.fnIsoRockSpec.plain.varTypes Tryz.prog ++ Tryz.f3.resultTypes.toList).any (Tryz.prog.veiledRec ·))) = true := by kernel_rfl
theorem rockFact31 : (Rows.fnIsoRockRow.veiledFits Tryz.prog Tryz.f3.params.toList (Tryz.f3.params.toList ++ Rows.fnIsoRockSpec.plain.varTypes Tryz.prog ++ Tryz.f3.resultTypes.toList)) = true := by kernel_rfl
theorem rockName : Tryz.prog.funcNamed "given.example/pub-garboard/laws.FnIsoRock" = some 3 := by kernel_rfl
theorem rockInst : Tryz.f3.isInstance Tryz.prog Rows.fnIsoRockRow.origin Rows.fnIsoRockRow.targs := of_decide_eq_true (by kernel_rfl)
theorem rockWrap : Tryz.f3.isWrapper Tryz.prog Rows.fnIsoRockRow.wrapper Rows.fnIsoRockRow.mainSum := by unfold Func.isWrapper; first | (rw [if_pos (by decide +kernel)]; kernel_rfl) | (rw [if_neg (by decide +kernel)]; exact ⟨rfl, rfl⟩)
theorem rockByText : Rows.fnIsoRockRow.wfByText (OpenSpec.ofChange Rows.fnIsoRockSpec) = true := by kernel_rfl
theorem rockMain : Tryz.prog.mainIs = some (true, "b0240fe3b9203247f03b7689ddbffcd335328b61a8febba830cdb4a711ad05c8".toList) := by kernel_rfl
theorem rockLooks : true = Tryz.prog.looks [] := by kernel_rfl
theorem rockStand : ([22].all fun u => !Tryz.prog.wantsStandIn u) = true := by kernel_rfl
theorem rockGoes : false = Rows.fnIsoRockRow.goesBy Tryz.prog := by kernel_rfl
end
end Go.Proofs.YtilgpaeeleknhaaGreatDoor
