/- A part of the proof of laws.FnIsoRock (see the last text). -/
import Derived.Test.YtilgpaeeleknhaaGreatDoorRows
import Derived.Test.YtilgpaeeleknhaaGreatDoorJr41
import Derived.Lib.LaidU8T
import Derived.Lay
import Derived.LaidMore
import Derived.ProofKit
import Derived.OpenShut
import Derived.Carry
import Derived.Deep.Slices
import Derived.Deep.Fields
import Derived.ChangeSame
import Derived.Stop.LaidErr
set_option linter.unusedSimpArgs false
set_option linter.unusedVariables false
set_option maxRecDepth 1000000
set_option maxHeartbeats 8000000
namespace Go.Proofs.YtilgpaeeleknhaaGreatDoor
section
open Go Go.RowKit Go.ChangeShapes Go.WideShapes Go.ChangeAt Go.Deep
theorem own_tryz : ownKnob Tryz.prog.godebug = none := by kernel_rfl
theorem laidOut_tryz : laidOutB Tryz.prog = true := by kernel_rfl
theorem acc_data : (Rows.laid_unicode_utf8_acceptRanges : DataW Unit) = Lib.acceptData := by kernel_rfl
theorem first_data : Rows.laid_unicode_utf8_first = Lib.firstData := by kernel_rfl
theorem eof_star : "*" ++ "errors.errorString" = "*errors.errorString" := by decide
def basicOk (P : Program) (nm : String) (e : TypeId) : Bool := match P.info? e with
 | some i => (match i.desc with
   | .bool | .int _ | .float _ | .string => i.str != nm
   | _ => true)
 | none => true
theorem named_of {P : Program} {nm : String} (hb : ((List.range P.types.size).all (basicOk P nm)) = true) (hs : ∀ n, nm ≠ "*" ++ n) :
 ((List.range P.types.size).all fun e => P.typeName? 2 e != some nm || (match (P.info? e).map (·.desc) with | some (TypeDesc.named _ _) => true | _ => false)) = true := by
 refine List.all_eq_true.2 fun e he => ?_
 have h1 := List.all_eq_true.1 hb e he
 by_cases hn : P.typeName? 2 e = some nm
 . unfold Program.typeName? at hn
   unfold basicOk at h1
   cases hi : P.info? e with
   | none => rw [hi] at hn; cases hn
   | some i =>
     rw [hi] at hn h1
     simp only at hn h1
     cases hd : i.desc <;> rw [hd] at hn h1 <;> simp only [Option.map_eq_some_iff] at hn h1 <;> simp only [Option.map_some, hd, Bool.or_true]
     all_goals exfalso
     all_goals first
      | (obtain ⟨n', _, h3⟩ := hn; exact hs n' h3.symm)
      | (cases hn; done)
      | (split at hn
         . cases hn
         . rw [Option.some.inj hn] at h1; simp at h1)
 . have : (P.typeName? 2 e != some nm) = true := by simpa using hn
   rw [this, Bool.true_or]
theorem eof_basic : ((List.range Tryz.prog.types.size).all (basicOk Tryz.prog "errors.errorString")) = true := by kernel_rfl
theorem eof_nostar : ∀ n, "errors.errorString" ≠ "*" ++ n := by
 intro n h
 have := congrArg String.toList h
 simp [String.toList_append] at this
def rowOk (P : Program) (nm star : String) (tp u : TypeId) : Bool := match P.info? u with
 | some i => (match i.desc with
   | .named n _ => n != star
   | .bool | .int _ | .float _ | .string => i.str != star
   | .pointer e => (match P.info? e with
     | some j => (match j.desc with
       | .named n _ => n != nm || u == tp
       | .bool | .int _ | .float _ | .string => j.str != nm
       | _ => true)
     | none => true)
   | _ => true)
 | none => true
theorem rows_of {P : Program} {nm star : String} {tp : TypeId} (hst : "*" ++ nm = star) (hb : ((List.range P.types.size).all (rowOk P nm star tp)) = true) (hs : ∀ n, nm ≠ "*" ++ n) :
 ((List.range P.types.size).all fun u => P.typeName? 3 u != some ("*" ++ nm) || u == tp) = true := by
 refine List.all_eq_true.2 fun e he => ?_
 have h1 := List.all_eq_true.1 hb e he
 rw [hst]
 by_cases hn : P.typeName? 3 e = some star
 . unfold Program.typeName? at hn
   unfold rowOk at h1
   cases hi : P.info? e with
   | none => rw [hi] at hn; cases hn
   | some i =>
     rw [hi] at hn h1
     simp only at hn h1
     cases hd : i.desc with
     | named n t =>
       exfalso
       rw [hd] at hn h1
       simp only at hn h1
       split at hn
       . rw [Option.some.inj hn] at h1; simp at h1
       . cases hn
     | pointer q =>
       rw [hd] at hn h1
       simp only [Option.map_eq_some_iff] at hn h1
       obtain ⟨n', hq, hs'⟩ := hn
       rw [<- hst] at hs'
       obtain rfl := star_append_inj hs'
       unfold Program.typeName? at hq
       cases hj : P.info? q with
       | none => rw [hj] at hq; cases hq
       | some j =>
         rw [hj] at hq h1
         simp only at hq h1
         cases hd' : j.desc with
         | named n t =>
           rw [hd'] at hq h1
           simp only at hq h1
           split at hq
           . rw [Option.some.inj hq] at h1
             have h2 : (e == tp) = true := by simpa using h1
             rw [h2, Bool.or_true]
           . cases hq
         | pointer q' =>
           exfalso
           rw [hd'] at hq
           simp only [Option.map_eq_some_iff] at hq
           obtain ⟨n'', _, h3⟩ := hq
           exact hs n'' h3.symm
         | _ =>
           exfalso
           rw [hd'] at hq h1
           simp only at hq h1
           first
            | (cases hq; done)
            | (split at hq
               . cases hq
               . rw [Option.some.inj hq] at h1; simp at h1)
     | _ =>
       exfalso
       rw [hd] at hn h1
       simp only at hn h1
       first
        | (cases hn; done)
        | (split at hn
           . cases hn
           . rw [Option.some.inj hn] at h1; simp at h1)
 . have : (P.typeName? 3 e != some star) = true := by simpa using hn
   rw [this, Bool.true_or]
theorem eof_rows : ((List.range Tryz.prog.types.size).all (rowOk Tryz.prog "errors.errorString" "*errors.errorString" 214)) = true := by kernel_rfl
theorem eof_row (u : TypeId) (h : Tryz.prog.typeName? 3 u = some "*errors.errorString") : u = 214 :=
 typeName_ptr_named (nm := "errors.errorString") (rows_of eof_star eof_rows eof_nostar) (named_of eof_basic eof_nostar) (by decide) u (by rw [eof_star]; exact h)
theorem eof_glob : Tryz.prog.globalNamed "io.EOF" = some 0 := by kernel_rfl
theorem eof_type : (Tryz.prog.globals[0]?).map (·.type) = some 104 := by kernel_rfl
theorem cells216 : Tryz.prog.cellsOf 216 = 1 := by kernel_rfl
theorem cells9 : Tryz.prog.cellsOf 9 = 1 := by kernel_rfl
theorem cells37 : Tryz.prog.cellsOf 37 = 8 := by kernel_rfl
theorem rec22 : Tryz.prog.readableRec 22 = true := by kernel_rfl
theorem in22 : 22 < Tryz.prog.types.size := of_decide_eq_true (by kernel_rfl)
theorem u8Extra : Go.Proofs.U8Extra Tryz.prog Tryz.laysValid_ren := ⟨by kernel_rfl, by kernel_rfl, by kernel_rfl, by kernel_rfl, by kernel_rfl, by kernel_rfl, by kernel_rfl⟩
end
end Go.Proofs.YtilgpaeeleknhaaGreatDoor
