/-
  DERIVED. A part of the proof of laws.FnIsoPaths (for every input the law returns true and each argument reads as before; the listed variables read as listed when the call begins). It holds:
  · DERIVED. Closed facts of the row and the card of laws.FnIsoPaths, each by itself (together they outgrow a process's memory). Printed by wip/gen9.py.
-/
import Derived.Test.YtilgpaeeleknhaaGreatDoorIq51
import Derived.Test.YtilgpaeeleknhaaGreatDoorTie
import Derived.Test.YtilgpaeeleknhaaGreatDoorCards
import Derived.SevenTiedAt
import Derived.Stop.Joined
section
namespace Go.Proofs.YtilgpaeeleknhaaGreatDoor
open Go Go.RowKit Go.ChangeShapes Go.WideShapes Go.ChangeAt
theorem pathsFact00 : (Rows.fnIsoPathsRow.wf (OpenSpec.ofChange Rows.fnIsoPathsSpec)) = true := by kernel_rfl
theorem pathsFact01 : (laidOutB Tryz.prog) = true := by kernel_rfl
theorem pathsFact02 : (mapsRowed Tryz.prog) = true := by kernel_rfl
theorem pathsFact03 : (Tryz.f5.params.all (Tryz.prog.readableRec ·)) = true := by kernel_rfl
theorem pathsFact04 : (namedTie Tryz.prog Rows.fnIsoPathsRow.named Rows.fnIsoPathsSpec.vars) = true := by kernel_rfl
theorem pathsFact05 : ((Rows.fnIsoPathsRow.stops == [])) = true := by kernel_rfl
theorem pathsFact06 : ((Tryz.prog.stops == [])) = true := by kernel_rfl
theorem pathsFact07 : ((Rows.fnIsoPathsRow.knobs == [])) = true := by kernel_rfl
theorem pathsFact08 : ((Tryz.prog.stopKnobs == [])) = true := by kernel_rfl
theorem pathsFact09 : ((Rows.fnIsoPathsRow.inPlace == Tryz.prog.inPlace 5)) = true := by kernel_rfl
theorem pathsFact10 : ((Rows.fnIsoPathsRow.unfollowed == Tryz.prog.unfollowed 5)) = true := by kernel_rfl
theorem pathsFact11 : ((Rows.fnIsoPathsRow.recurses == Tryz.prog.recurses 5)) = true := by kernel_rfl
theorem pathsFact12 : ((Rows.fnIsoPathsRow.named == Tryz.prog.varsNamed 5)) = true := by kernel_rfl
theorem pathsFact13 : ((Rows.fnIsoPathsRow.maps == (Tryz.f5.params.toList ++ Rows.fnIsoPathsSpec.plain.varTypes Tryz.prog).any (Tryz.prog.mapsRec ·))) = true := by kernel_rfl
theorem pathsFact14 : ((Rows.fnIsoPathsRow.ifaces == (Tryz.f5.params.toList ++ Rows.fnIsoPathsSpec.plain.varTypes Tryz.prog).any (Tryz.prog.ifacesRec ·))) = true := by kernel_rfl
theorem pathsFact15 : ((Rows.fnIsoPathsRow.mapsOut == Tryz.prog.mapsAmong Tryz.f5.resultTypes.toList)) = true := by kernel_rfl
theorem pathsFact16 : ((Rows.fnIsoPathsRow.loops == (Tryz.f5.params.toList ++ Rows.fnIsoPathsSpec.plain.varTypes Tryz.prog).any (Tryz.prog.loopsFrom ·))) = true := by kernel_rfl
theorem pathsFact17 : ((Rows.fnIsoPathsRow.wideKeys == (Tryz.f5.params.toList ++ Rows.fnIsoPathsSpec.plain.varTypes Tryz.prog ++ Tryz.f5.resultTypes.toList).any (Tryz.prog.wideKeysFrom ·))) = true := by kernel_rfl
theorem pathsFact18 : (Rows.fnIsoPathsSpec.vars.all (Tryz.prog.varReadable ·)) = true := by kernel_rfl
theorem pathsFact19 : (Tryz.f5.resultTypes.all (fun t => Tryz.prog.readableRec t && decide (t < Tryz.prog.types.size))) = true := by kernel_rfl
theorem pathsFact20 : ((Rows.fnIsoPathsRow.ifacesOut == Tryz.f5.resultTypes.toList.any (Tryz.prog.ifacesRec ·))) = true := by kernel_rfl
theorem pathsFact21 : ((Rows.fnIsoPathsRow.loopsOut == Tryz.f5.resultTypes.toList.any (Tryz.prog.loopsFrom ·))) = true := by kernel_rfl
theorem pathsFact22 : ((Rows.fnIsoPathsRow.plainKeys == Tryz.prog.plainKeys)) = true := by kernel_rfl
theorem pathsFact23 : (Rows.fnIsoPathsRow.shortTexts.isNone) = true := by kernel_rfl
theorem pathsFact24 : (Tryz.prog.stopsHeard) = true := by kernel_rfl
theorem pathsFact25 : (Tryz.prog.mayEnter) = true := by kernel_rfl
theorem pathsFact26 : ((Rows.fnIsoPathsRow.lifted == Tryz.prog.liftsFinal)) = true := by kernel_rfl
theorem pathsFact27 : ((Tryz.prog.make == some Rows.fnIsoPathsRow.make)) = true := by kernel_rfl
theorem pathsFact28 : ((Rows.fnIsoPathsRow.kinds == (if Rows.fnIsoPathsRow.domain.isEmpty then [] else Tryz.f5.params.toList.map fun t => match Tryz.prog.underlying t with | some (.int k) => some k | _ => none))) = true := by kernel_rfl
theorem pathsFact29 : ((Rows.fnIsoPathsRow.pinned == Rows.fnIsoPathsRow.pinnedBy)) = true := by kernel_rfl
theorem pathsFact30 : ((Rows.fnIsoPathsRow.veiled == (Tryz.f5.params.toList ++ Rows.fnIsoPathsSpec.plain.varTypes Tryz.prog ++ Tryz.f5.resultTypes.toList).any (Tryz.prog.veiledRec ·))) = true := by kernel_rfl
theorem pathsFact31 : (Rows.fnIsoPathsRow.veiledFits Tryz.prog Tryz.f5.params.toList (Tryz.f5.params.toList ++ Rows.fnIsoPathsSpec.plain.varTypes Tryz.prog ++ Tryz.f5.resultTypes.toList)) = true := by kernel_rfl
theorem pathsName : Tryz.prog.funcNamed "given.example/pub-garboard/laws.FnIsoPaths" = some 5 := by kernel_rfl
theorem pathsInst : Tryz.f5.isInstance Tryz.prog Rows.fnIsoPathsRow.origin Rows.fnIsoPathsRow.targs := of_decide_eq_true (by kernel_rfl)
theorem pathsWrap : Tryz.f5.isWrapper Tryz.prog Rows.fnIsoPathsRow.wrapper Rows.fnIsoPathsRow.mainSum := by unfold Func.isWrapper; first | (rw [if_pos (by decide +kernel)]; kernel_rfl) | (rw [if_neg (by decide +kernel)]; exact ⟨rfl, rfl⟩)
theorem pathsByText : Rows.fnIsoPathsRow.wfByText (OpenSpec.ofChange Rows.fnIsoPathsSpec) = true := by kernel_rfl
theorem pathsMain : Tryz.prog.mainIs = some (true, "b0240fe3b9203247f03b7689ddbffcd335328b61a8febba830cdb4a711ad05c8".toList) := by kernel_rfl
theorem pathsLooks : true = Tryz.prog.looks [] := by kernel_rfl
theorem pathsStand : ([22, 5].all fun u => !Tryz.prog.wantsStandIn u) = true := by kernel_rfl
theorem pathsGoes : false = Rows.fnIsoPathsRow.goesBy Tryz.prog := by kernel_rfl
end Go.Proofs.YtilgpaeeleknhaaGreatDoor
end
