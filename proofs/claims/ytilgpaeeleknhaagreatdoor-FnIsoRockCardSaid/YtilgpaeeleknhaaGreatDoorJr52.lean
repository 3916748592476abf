/- laws.FnIsoRock: true at every input, each argument reads as before (premise: the listed variables read as listed at the call): a part of its proof. -/
import Derived.Test.YtilgpaeeleknhaaGreatDoorJr51
set_option linter.unusedSimpArgs false
set_option linter.unusedVariables false
set_option maxRecDepth 1000000
set_option maxHeartbeats 8000000
namespace Go.Proofs.YtilgpaeeleknhaaGreatDoor
section
open Go Go.RowKit Go.ChangeShapes Go.WideShapes Go.ChangeAt
theorem andT {a b : Bool} (h : a = true) (k : b = true) : (a && b) = true := by rw [h, k]; rfl
theorem rockClosed : joinedFacts Tryz.prog 3 Tryz.f3 Rows.fnIsoRockSpec Rows.fnIsoRockRow = true := by
 unfold joinedFacts
 exact (andT (andT (andT (andT (andT (andT (andT (andT (andT (andT (andT (andT (andT (andT (andT (andT (andT (andT (andT (andT (andT (andT (andT (andT (andT (andT (andT (andT (andT (andT (andT rockFact00 rockFact01) rockFact02) rockFact03) rockFact04) rockFact05) rockFact06) rockFact07) rockFact08) rockFact09) rockFact10) rockFact11) rockFact12) rockFact13) rockFact14) rockFact15) rockFact16) rockFact17) rockFact18) rockFact19) rockFact20) rockFact21) rockFact22) rockFact23) rockFact24) rockFact25) rockFact26) rockFact27) rockFact28) rockFact29) rockFact30) rockFact31)
theorem fnIsoRock_row : Rows.FnIsoRockSaid :=
 OpenClaim.holds_of_wide 3 Tryz.f3 rfl rfl rfl rfl rfl rfl rfl ⟨rfl, rfl, rfl, rfl, rfl⟩ rfl rfl rfl rfl rfl rockName Tryz.func3 rockClosed rockInst rockWrap
  (fun os started H enc _ => rock_lifted os started H enc)
theorem fnIsoRock_holds : Rows.FnIsoRockCardSaid :=
 Claim7.holds_tied_plain_at .later [] [.data, .sentinel, .pinned] true (true, "b0240fe3b9203247f03b7689ddbffcd335328b61a8febba830cdb4a711ad05c8") true fnIsoRock_row (fun _ h => by cases h) rockByText (fun _ h => by cases h) fnIsoRock_row_tie rfl ⟨rfl, rfl⟩ rockMain rfl
  (fun f fn hf hfn => by
    obtain rfl : f = 3 := Option.some.inj (rockName.symm.trans hf) |>.symm
    obtain rfl : fn = Tryz.f3 := (Option.some.inj (Tryz.func3.symm.trans hfn)).symm
    exact ⟨rockLooks, fun j t ht => by
     rw [Tryz.params3] at ht
     have hm : t ∈ [22] := by simpa using Array.mem_of_getElem? ht
     exact (show Tryz.prog.wantsStandIn t = false by simpa using List.all_eq_true.1 rockStand t hm)⟩)
  rockGoes
#print axioms fnIsoRock_holds
end
end Go.Proofs.YtilgpaeeleknhaaGreatDoor
