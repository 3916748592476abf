/-
  DERIVED. A part of the proof of laws.FnIsoPaths (for every input the law returns true and each argument reads as before; the listed variables read as listed when the call begins). It holds:
  · DERIVED. laws.FnIsoPaths: the row (for every input true, the input reads as it did; premise: the listed variables read as listed when the call begins) and its tied card, proved.
-/
import Derived.Test.YtilgpaeeleknhaaGreatDoorIq52
section
namespace Go.Proofs.YtilgpaeeleknhaaGreatDoor
open Go Go.RowKit Go.ChangeShapes Go.WideShapes Go.ChangeAt
theorem andT {a b : Bool} (h : a = true) (k : b = true) : (a && b) = true := by rw [h, k]; rfl
set_option maxRecDepth 1000000 in
theorem pathsClosed : joinedFacts Tryz.prog 5 Tryz.f5 Rows.fnIsoPathsSpec Rows.fnIsoPathsRow = true := by
  unfold joinedFacts
  exact (andT (andT (andT (andT (andT (andT (andT (andT (andT (andT (andT (andT (andT (andT (andT (andT (andT (andT (andT (andT (andT (andT (andT (andT (andT (andT (andT (andT (andT (andT (andT pathsFact00 pathsFact01) pathsFact02) pathsFact03) pathsFact04) pathsFact05) pathsFact06) pathsFact07) pathsFact08) pathsFact09) pathsFact10) pathsFact11) pathsFact12) pathsFact13) pathsFact14) pathsFact15) pathsFact16) pathsFact17) pathsFact18) pathsFact19) pathsFact20) pathsFact21) pathsFact22) pathsFact23) pathsFact24) pathsFact25) pathsFact26) pathsFact27) pathsFact28) pathsFact29) pathsFact30) pathsFact31)
theorem fnIsoPaths_row : Rows.FnIsoPathsSaid :=
  OpenClaim.holds_of_wide 5 Tryz.f5 rfl rfl rfl rfl rfl rfl rfl ⟨rfl, rfl, rfl, rfl, rfl⟩ rfl rfl rfl rfl rfl pathsName Tryz.func5 pathsClosed pathsInst pathsWrap
    (fun os started H enc _ => paths_lifted os started H enc)
theorem fnIsoPaths_holds : Rows.FnIsoPathsCardSaid :=
  Claim7.holds_tied_plain_at .later [] [.data, .sentinel, .pinned] true (true, "b0240fe3b9203247f03b7689ddbffcd335328b61a8febba830cdb4a711ad05c8") true fnIsoPaths_row (fun _ h => by cases h) pathsByText (fun _ h => by cases h) fnIsoPaths_row_tie rfl ⟨rfl, rfl⟩ pathsMain rfl
    (fun f fn hf hfn => by
      obtain rfl : f = 5 := Option.some.inj (pathsName.symm.trans hf) |>.symm
      obtain rfl : fn = Tryz.f5 := (Option.some.inj (Tryz.func5.symm.trans hfn)).symm
      exact ⟨pathsLooks, fun j t ht => by
        rw [Tryz.params5] at ht
        have hm : t ∈ [22, 5] := by simpa using Array.mem_of_getElem? ht
        exact (show Tryz.prog.wantsStandIn t = false by simpa using List.all_eq_true.1 pathsStand t hm)⟩)
    pathsGoes
#print axioms fnIsoPaths_holds
end Go.Proofs.YtilgpaeeleknhaaGreatDoor
end
