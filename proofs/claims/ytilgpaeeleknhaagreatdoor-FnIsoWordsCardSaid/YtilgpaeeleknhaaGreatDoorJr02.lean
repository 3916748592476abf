/- A part of the proof of laws.FnIsoRock (see the last text). -/
import Derived.Ground.NamesProg
import Derived.Shelf.Unicode.ValidAny
import Derived.Test.YtilgpaeeleknhaaGreatDoorProg
set_option linter.unusedSimpArgs false
set_option linter.unusedVariables false
set_option maxRecDepth 1000000
set_option maxHeartbeats 8000000
section
namespace Go.Proofs
open Go.Shelf
def Tryz.laysValid_ren : Go.Shelf.Ren := ⟨fun | 196 => 43 | 259 => 73 | n => n, fun | 9 => 9 | 4 => 4 | 3 => 3 | 5 => 5 | 12 => 12 | 119 => 135 | 0 => 0 | 46 => 139 | 139 => 138 | 138 => 137 | 53 => 55 | n => n, fun | 3 => 1 | 4 => 2 | n => n⟩
theorem Tryz.laysValid : Go.Proofs.Lays.n196 Tryz.prog Tryz.laysValid_ren := {
 mixed := by kernel_rfl
 f196 := Tryz.func43.trans (congrArg some (by kernel_rfl))
 f259 := Tryz.func73.trans (congrArg some (by kernel_rfl))
 t0 := Tryz.underlying0
 a0 := Tryz.isAgg0
 z0 := Tryz.sizeOf0
 v0 := Tryz.zeroValue0
 t3 := Tryz.underlying3
 a3 := Tryz.isAgg3
 z3 := Tryz.sizeOf3
 v3 := Tryz.zeroValue3
 t4 := Tryz.underlying4
 a4 := Tryz.isAgg4
 z4 := Tryz.sizeOf4
 v4 := Tryz.zeroValue4
 t5 := Tryz.underlying5
 a5 := Tryz.isAgg5
 z5 := Tryz.sizeOf5
 v5 := Tryz.zeroValue5
 t9 := Tryz.underlying9
 a9 := Tryz.isAgg9
 z9 := Tryz.sizeOf9
 v9 := Tryz.zeroValue9
 t12 := Tryz.underlying12
 a12 := Tryz.isAgg12
 z12 := Tryz.sizeOf12
 v12 := Tryz.zeroValue12
 t46 := Tryz.underlying139
 a46 := Tryz.isAgg139
 z46 := Tryz.sizeOf139
 v46 := Tryz.zeroValue139
 t53 := Tryz.underlying55
 a53 := Tryz.isAgg55
 z53 := Tryz.sizeOf55
 v53 := Tryz.zeroValue55
 t119 := Tryz.underlying135
 a119 := Tryz.isAgg135
 z119 := Tryz.sizeOf135
 t138 := Tryz.underlying137
 a138 := Tryz.isAgg137
 z138 := Tryz.sizeOf137
 v138 := Tryz.zeroValue137
 t139 := Tryz.underlying138
 a139 := Tryz.isAgg138
 z139 := Tryz.sizeOf138
 v139 := Tryz.zeroValue138
 g3 := by kernel_rfl
 g4 := by kernel_rfl }
open Go.RowKit Go.Lib in
theorem Tryz.utf8_ValidString (s : ByteArray) (w : World) (hs : s.size <= 9223372036854775807) (hT : Lib.Utf8Tabs (Tryz.laysValid_ren.g 3) (Tryz.laysValid_ren.g 4) w) :
 Calls Tryz.prog 43 #[.string s] w fun e w' => e = .returned (.bool (Lib.validD s.data.toList)) /\ Below w.heap.size w w' := Any.utf8_ValidString Tryz.laysValid s w hs hT
end Go.Proofs
end
