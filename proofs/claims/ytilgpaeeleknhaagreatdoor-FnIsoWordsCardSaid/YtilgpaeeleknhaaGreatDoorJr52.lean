/- laws.FnIsoWords: true at every input, each argument reads as before (premise: the listed variables read as listed at the call): a part of its proof (the texts ahead of it are those of the proof of laws.FnIsoRock, but for what it alone needs). -/
import Derived.Test.YtilgpaeeleknhaaGreatDoorJr51
set_option linter.unusedSimpArgs false
set_option linter.unusedVariables false
set_option maxRecDepth 1000000
set_option maxHeartbeats 8000000
namespace Go.Proofs.YtilgpaeeleknhaaGreatDoor
section
open Go Go.RowKit Go.ChangeShapes Go.WideShapes Go.ChangeAt
theorem andT {a b : Bool} (h : a = true) (k : b = true) : (a && b) = true := by rw [h, k]; rfl
theorem wordsClosed : joinedFacts Tryz.prog 4 Tryz.f4 Rows.fnIsoWordsSpec Rows.fnIsoWordsRow = true := by
 unfold joinedFacts
 exact (andT (andT (andT (andT (andT (andT (andT (andT (andT (andT (andT (andT (andT (andT (andT (andT (andT (andT (andT (andT (andT (andT (andT (andT (andT (andT (andT (andT (andT (andT (andT wordsFact00 wordsFact01) wordsFact02) wordsFact03) wordsFact04) wordsFact05) wordsFact06) wordsFact07) wordsFact08) wordsFact09) wordsFact10) wordsFact11) wordsFact12) wordsFact13) wordsFact14) wordsFact15) wordsFact16) wordsFact17) wordsFact18) wordsFact19) wordsFact20) wordsFact21) wordsFact22) wordsFact23) wordsFact24) wordsFact25) wordsFact26) wordsFact27) wordsFact28) wordsFact29) wordsFact30) wordsFact31)
theorem fnIsoWords_row : Rows.FnIsoWordsSaid :=
 OpenClaim.holds_of_wide 4 Tryz.f4 rfl rfl rfl rfl rfl rfl rfl ⟨rfl, rfl, rfl, rfl, rfl⟩ rfl rfl rfl rfl rfl wordsName Tryz.func4 wordsClosed wordsInst wordsWrap
  (fun os started H enc _ => words_lifted os started H enc)
theorem fnIsoWords_holds : Rows.FnIsoWordsCardSaid :=
 Claim7.holds_tied_plain_at .later [] [.data, .sentinel, .pinned] true (true, "b0240fe3b9203247f03b7689ddbffcd335328b61a8febba830cdb4a711ad05c8") true fnIsoWords_row (fun _ h => by cases h) wordsByText (fun _ h => by cases h) fnIsoWords_row_tie rfl ⟨rfl, rfl⟩ wordsMain rfl
  (fun f fn hf hfn => by
    obtain rfl : f = 4 := Option.some.inj (wordsName.symm.trans hf) |>.symm
    obtain rfl : fn = Tryz.f4 := (Option.some.inj (Tryz.func4.symm.trans hfn)).symm
    exact ⟨wordsLooks, fun j t ht => by
     rw [Tryz.params4] at ht
     have hm : t ∈ [22] := by simpa using Array.mem_of_getElem? ht
     exact (show Tryz.prog.wantsStandIn t = false by simpa using List.all_eq_true.1 wordsStand t hm)⟩)
  wordsGoes
#print axioms fnIsoWords_holds
end
end Go.Proofs.YtilgpaeeleknhaaGreatDoor
