/- A part of the proof of laws.FnIsoRock (see the last text). -/
import Derived.Ground.MnProg
import Derived.Shelf.Bin.LEUint16
import Derived.Shelf.Bin.LEUint32
import Derived.Shelf.Bin.LEUint64
import Derived.Shelf.Bin.BEUint16
import Derived.Shelf.Bin.BEUint32
import Derived.Shelf.Bin.BEUint64
import Derived.Shelf.Bin.LEUint16Panics
import Derived.Shelf.Bin.LEUint32Panics
import Derived.Shelf.Bin.LEUint64Panics
import Derived.Shelf.Bin.BEUint16Panics
import Derived.Shelf.Bin.BEUint32Panics
import Derived.Shelf.Bin.BEUint64Panics
import Derived.Shelf.Strings.LastIndex
import Derived.Shelf.Bin.ReadersZ
import Derived.Shelf.Strings.Prefix
import Derived.Shelf.Bytes.SlEqualAll
import Derived.Ground.PaProg
import Derived.Shelf.Path.Small
import Derived.Shelf.Bytes.Small
import Derived.Shelf.Path.LazyBuf
import Derived.Shelf.Path.CleanRel
import Derived.Shelf.Path.CleanAbs
import Derived.Shelf.Path.Clean
import Derived.Shelf.Path.Join
import Derived.Shelf.Path.CleanRules
import Derived.Shelf.Path.JoinRules
import Derived.Test.YtilgpaeeleknhaaGreatDoorProg
set_option linter.unusedSimpArgs false
set_option linter.unusedVariables false
set_option maxRecDepth 1000000
set_option maxHeartbeats 8000000
section
namespace Go.Proofs
open Go.Shelf
def Tryz.laysBin27_ren : Go.Shelf.Ren := ⟨fun | 27 => 101 | n => n, fun | 25 => 236 | 22 => 27 | 23 => 101 | 0 => 0 | 5 => 5 | 45 => 139 | n => n, fun | n => n⟩
theorem Tryz.laysBin27 : Go.Proofs.LaysBin.n27 Tryz.prog Tryz.laysBin27_ren := {
 mixed := by kernel_rfl
 f27 := Tryz.func101.trans (congrArg some (by kernel_rfl))
 t0 := Tryz.underlying0
 a0 := Tryz.isAgg0
 z0 := Tryz.sizeOf0
 v0 := Tryz.zeroValue0
 i0 := by kernel_rfl
 t5 := Tryz.underlying5
 a5 := Tryz.isAgg5
 z5 := Tryz.sizeOf5
 v5 := Tryz.zeroValue5
 i5 := by kernel_rfl
 t22 := Tryz.underlying27
 a22 := Tryz.isAgg27
 z22 := Tryz.sizeOf27
 v22 := Tryz.zeroValue27
 i22 := by kernel_rfl
 t23 := Tryz.underlying101
 a23 := Tryz.isAgg101
 z23 := Tryz.sizeOf101
 v23 := Tryz.zeroValue101
 i23 := by kernel_rfl
 t25 := Tryz.underlying236
 a25 := Tryz.isAgg236
 z25 := Tryz.sizeOf236
 v25 := Tryz.zeroValue236
 i25 := by kernel_rfl
 t45 := Tryz.underlying139
 a45 := Tryz.isAgg139
 z45 := Tryz.sizeOf139
 v45 := Tryz.zeroValue139
 i45 := by kernel_rfl }
open Go.RowKit in
theorem Tryz.binary_LE_Uint16 (g o n c : Nat) (b0 b1 : UInt8) (w : World) (hn : 2 <= n) (c0 : w.cell? ⟨g, o, none⟩ = some (.int .u8 b0.toNat)) (c1 : w.cell? ⟨g, o + 1, none⟩ = some (.int .u8 b1.toNat)) :
 Calls Tryz.prog 101 #[.agg #[], .slice (some ⟨g, o, none⟩) n c] w fun e w' => e = .returned (.int .u16 (Lib.leNat [b0, b1])) /\ Below w.heap.size w w' := Any.binary_LE_Uint16 Tryz.laysBin27 g o n c b0 b1 w hn c0 c1
def Tryz.laysBin30_ren : Go.Shelf.Ren := ⟨fun | 30 => 100 | n => n, fun | 25 => 236 | 22 => 27 | 29 => 35 | 0 => 0 | 5 => 5 | 45 => 139 | n => n, fun | n => n⟩
theorem Tryz.laysBin30 : Go.Proofs.LaysBin.n30 Tryz.prog Tryz.laysBin30_ren := {
 mixed := by kernel_rfl
 f30 := Tryz.func100.trans (congrArg some (by kernel_rfl))
 t0 := Tryz.underlying0
 a0 := Tryz.isAgg0
 z0 := Tryz.sizeOf0
 v0 := Tryz.zeroValue0
 i0 := by kernel_rfl
 t5 := Tryz.underlying5
 a5 := Tryz.isAgg5
 z5 := Tryz.sizeOf5
 v5 := Tryz.zeroValue5
 i5 := by kernel_rfl
 t22 := Tryz.underlying27
 a22 := Tryz.isAgg27
 z22 := Tryz.sizeOf27
 v22 := Tryz.zeroValue27
 i22 := by kernel_rfl
 t25 := Tryz.underlying236
 a25 := Tryz.isAgg236
 z25 := Tryz.sizeOf236
 v25 := Tryz.zeroValue236
 i25 := by kernel_rfl
 t29 := Tryz.underlying35
 a29 := Tryz.isAgg35
 z29 := Tryz.sizeOf35
 v29 := Tryz.zeroValue35
 i29 := by kernel_rfl
 t45 := Tryz.underlying139
 a45 := Tryz.isAgg139
 z45 := Tryz.sizeOf139
 v45 := Tryz.zeroValue139
 i45 := by kernel_rfl }
open Go.RowKit in
theorem Tryz.binary_LE_Uint32 (g o n c : Nat) (b0 b1 b2 b3 : UInt8) (w : World) (hn : 4 <= n) (c0 : w.cell? ⟨g, o, none⟩ = some (.int .u8 b0.toNat)) (c1 : w.cell? ⟨g, o + 1, none⟩ = some (.int .u8 b1.toNat)) (c2 : w.cell? ⟨g, o + 2, none⟩ = some (.int .u8 b2.toNat)) (c3 : w.cell? ⟨g, o + 3, none⟩ = some (.int .u8 b3.toNat)) :
 Calls Tryz.prog 100 #[.agg #[], .slice (some ⟨g, o, none⟩) n c] w fun e w' => e = .returned (.int .u32 (Lib.leNat [b0, b1, b2, b3])) /\ Below w.heap.size w w' := Any.binary_LE_Uint32 Tryz.laysBin30 g o n c b0 b1 b2 b3 w hn c0 c1 c2 c3
def Tryz.laysBin36_ren : Go.Shelf.Ren := ⟨fun | 36 => 163 | n => n, fun | 37 => 218 | 22 => 27 | 23 => 101 | 0 => 0 | 5 => 5 | 45 => 139 | n => n, fun | n => n⟩
theorem Tryz.laysBin36 : Go.Proofs.LaysBin.n36 Tryz.prog Tryz.laysBin36_ren := {
 mixed := by kernel_rfl
 f36 := Tryz.func163.trans (congrArg some (by kernel_rfl))
 t0 := Tryz.underlying0
 a0 := Tryz.isAgg0
 z0 := Tryz.sizeOf0
 v0 := Tryz.zeroValue0
 i0 := by kernel_rfl
 t5 := Tryz.underlying5
 a5 := Tryz.isAgg5
 z5 := Tryz.sizeOf5
 v5 := Tryz.zeroValue5
 i5 := by kernel_rfl
 t22 := Tryz.underlying27
 a22 := Tryz.isAgg27
 z22 := Tryz.sizeOf27
 v22 := Tryz.zeroValue27
 i22 := by kernel_rfl
 t23 := Tryz.underlying101
 a23 := Tryz.isAgg101
 z23 := Tryz.sizeOf101
 v23 := Tryz.zeroValue101
 i23 := by kernel_rfl
 t37 := Tryz.underlying218
 a37 := Tryz.isAgg218
 z37 := Tryz.sizeOf218
 v37 := Tryz.zeroValue218
 i37 := by kernel_rfl
 t45 := Tryz.underlying139
 a45 := Tryz.isAgg139
 z45 := Tryz.sizeOf139
 v45 := Tryz.zeroValue139
 i45 := by kernel_rfl }
open Go.RowKit in
theorem Tryz.binary_BE_Uint16 (g o n c : Nat) (b0 b1 : UInt8) (w : World) (hn : 2 <= n) (c0 : w.cell? ⟨g, o, none⟩ = some (.int .u8 b0.toNat)) (c1 : w.cell? ⟨g, o + 1, none⟩ = some (.int .u8 b1.toNat)) :
 Calls Tryz.prog 163 #[.agg #[], .slice (some ⟨g, o, none⟩) n c] w fun e w' => e = .returned (.int .u16 (Lib.beNat [b0, b1])) /\ Below w.heap.size w w' := Any.binary_BE_Uint16 Tryz.laysBin36 g o n c b0 b1 w hn c0 c1
def Tryz.laysBin39_ren : Go.Shelf.Ren := ⟨fun | 39 => 121 | n => n, fun | 37 => 218 | 22 => 27 | 29 => 35 | 0 => 0 | 5 => 5 | 45 => 139 | n => n, fun | n => n⟩
theorem Tryz.laysBin39 : Go.Proofs.LaysBin.n39 Tryz.prog Tryz.laysBin39_ren := {
 mixed := by kernel_rfl
 f39 := Tryz.func121.trans (congrArg some (by kernel_rfl))
 t0 := Tryz.underlying0
 a0 := Tryz.isAgg0
 z0 := Tryz.sizeOf0
 v0 := Tryz.zeroValue0
 i0 := by kernel_rfl
 t5 := Tryz.underlying5
 a5 := Tryz.isAgg5
 z5 := Tryz.sizeOf5
 v5 := Tryz.zeroValue5
 i5 := by kernel_rfl
 t22 := Tryz.underlying27
 a22 := Tryz.isAgg27
 z22 := Tryz.sizeOf27
 v22 := Tryz.zeroValue27
 i22 := by kernel_rfl
 t29 := Tryz.underlying35
 a29 := Tryz.isAgg35
 z29 := Tryz.sizeOf35
 v29 := Tryz.zeroValue35
 i29 := by kernel_rfl
 t37 := Tryz.underlying218
 a37 := Tryz.isAgg218
 z37 := Tryz.sizeOf218
 v37 := Tryz.zeroValue218
 i37 := by kernel_rfl
 t45 := Tryz.underlying139
 a45 := Tryz.isAgg139
 z45 := Tryz.sizeOf139
 v45 := Tryz.zeroValue139
 i45 := by kernel_rfl }
open Go.RowKit in
theorem Tryz.binary_BE_Uint32 (g o n c : Nat) (b0 b1 b2 b3 : UInt8) (w : World) (hn : 4 <= n) (c0 : w.cell? ⟨g, o, none⟩ = some (.int .u8 b0.toNat)) (c1 : w.cell? ⟨g, o + 1, none⟩ = some (.int .u8 b1.toNat)) (c2 : w.cell? ⟨g, o + 2, none⟩ = some (.int .u8 b2.toNat)) (c3 : w.cell? ⟨g, o + 3, none⟩ = some (.int .u8 b3.toNat)) :
 Calls Tryz.prog 121 #[.agg #[], .slice (some ⟨g, o, none⟩) n c] w fun e w' => e = .returned (.int .u32 (Lib.beNat [b0, b1, b2, b3])) /\ Below w.heap.size w w' := Any.binary_BE_Uint32 Tryz.laysBin39 g o n c b0 b1 b2 b3 w hn c0 c1 c2 c3
def Tryz.laysBin42_ren : Go.Shelf.Ren := ⟨fun | 42 => 95 | n => n, fun | 37 => 218 | 22 => 27 | 33 => 55 | 0 => 0 | 5 => 5 | 45 => 139 | n => n, fun | n => n⟩
theorem Tryz.laysBin42 : Go.Proofs.LaysBin.n42 Tryz.prog Tryz.laysBin42_ren := {
 mixed := by kernel_rfl
 f42 := Tryz.func95.trans (congrArg some (by kernel_rfl))
 t0 := Tryz.underlying0
 a0 := Tryz.isAgg0
 z0 := Tryz.sizeOf0
 v0 := Tryz.zeroValue0
 i0 := by kernel_rfl
 t5 := Tryz.underlying5
 a5 := Tryz.isAgg5
 z5 := Tryz.sizeOf5
 v5 := Tryz.zeroValue5
 i5 := by kernel_rfl
 t22 := Tryz.underlying27
 a22 := Tryz.isAgg27
 z22 := Tryz.sizeOf27
 v22 := Tryz.zeroValue27
 i22 := by kernel_rfl
 t33 := Tryz.underlying55
 a33 := Tryz.isAgg55
 z33 := Tryz.sizeOf55
 v33 := Tryz.zeroValue55
 i33 := by kernel_rfl
 t37 := Tryz.underlying218
 a37 := Tryz.isAgg218
 z37 := Tryz.sizeOf218
 v37 := Tryz.zeroValue218
 i37 := by kernel_rfl
 t45 := Tryz.underlying139
 a45 := Tryz.isAgg139
 z45 := Tryz.sizeOf139
 v45 := Tryz.zeroValue139
 i45 := by kernel_rfl }
open Go.RowKit in
theorem Tryz.binary_BE_Uint64 (g o n c : Nat) (b0 b1 b2 b3 b4 b5 b6 b7 : UInt8) (w : World) (hn : 8 <= n) (c0 : w.cell? ⟨g, o, none⟩ = some (.int .u8 b0.toNat)) (c1 : w.cell? ⟨g, o + 1, none⟩ = some (.int .u8 b1.toNat)) (c2 : w.cell? ⟨g, o + 2, none⟩ = some (.int .u8 b2.toNat)) (c3 : w.cell? ⟨g, o + 3, none⟩ = some (.int .u8 b3.toNat)) (c4 : w.cell? ⟨g, o + 4, none⟩ = some (.int .u8 b4.toNat)) (c5 : w.cell? ⟨g, o + 5, none⟩ = some (.int .u8 b5.toNat)) (c6 : w.cell? ⟨g, o + 6, none⟩ = some (.int .u8 b6.toNat)) (c7 : w.cell? ⟨g, o + 7, none⟩ = some (.int .u8 b7.toNat)) :
 Calls Tryz.prog 95 #[.agg #[], .slice (some ⟨g, o, none⟩) n c] w fun e w' => e = .returned (.int .u64 (Lib.beNat [b0, b1, b2, b3, b4, b5, b6, b7])) /\ Below w.heap.size w w' := Any.binary_BE_Uint64 Tryz.laysBin42 g o n c b0 b1 b2 b3 b4 b5 b6 b7 w hn c0 c1 c2 c3 c4 c5 c6 c7
def Tryz.lays206_ren : Go.Shelf.Ren := ⟨fun | 206 => 150 | n => n, fun | 9 => 9 | 4 => 4 | 3 => 3 | n => n, fun | n => n⟩
def Tryz.lays101_ren : Go.Shelf.Ren := ⟨fun | 101 => 117 | 208 => 139 | 206 => 150 | n => n, fun | 9 => 9 | 4 => 4 | 3 => 3 | n => n, fun | n => n⟩
theorem Tryz.lays101 : Go.Proofs.Lays.n101 Tryz.prog Tryz.lays101_ren := {
 mixed := by kernel_rfl
 f101 := Tryz.func117.trans (congrArg some (by kernel_rfl))
 f206 := Tryz.func150.trans (congrArg some (by kernel_rfl))
 f208 := Tryz.func139.trans (congrArg some (by kernel_rfl))
 t3 := Tryz.underlying3
 a3 := Tryz.isAgg3
 z3 := Tryz.sizeOf3
 v3 := Tryz.zeroValue3
 t4 := Tryz.underlying4
 a4 := Tryz.isAgg4
 z4 := Tryz.sizeOf4
 v4 := Tryz.zeroValue4
 t9 := Tryz.underlying9
 a9 := Tryz.isAgg9
 z9 := Tryz.sizeOf9
 v9 := Tryz.zeroValue9 }
open Go.RowKit Go.Lib in
theorem Tryz.strings_TrimPrefix (s p : ByteArray) (w : World) :
 Calls Tryz.prog 117 #[.string s, .string p] w fun e w' => e = .returned (.string ⟨(Lib.trimPrefix s.data.toList p.data.toList).toArray⟩) /\ w' = w := Any.strings_TrimPrefix Tryz.lays101 s p w
def Tryz.lays102_ren : Go.Shelf.Ren := ⟨fun | 102 => 116 | 209 => 138 | 207 => 149 | n => n, fun | 9 => 9 | 4 => 4 | 3 => 3 | n => n, fun | n => n⟩
theorem Tryz.lays102 : Go.Proofs.Lays.n102 Tryz.prog Tryz.lays102_ren := {
 mixed := by kernel_rfl
 f102 := Tryz.func116.trans (congrArg some (by kernel_rfl))
 f207 := Tryz.func149.trans (congrArg some (by kernel_rfl))
 f209 := Tryz.func138.trans (congrArg some (by kernel_rfl))
 t3 := Tryz.underlying3
 a3 := Tryz.isAgg3
 z3 := Tryz.sizeOf3
 v3 := Tryz.zeroValue3
 t4 := Tryz.underlying4
 a4 := Tryz.isAgg4
 z4 := Tryz.sizeOf4
 v4 := Tryz.zeroValue4
 t9 := Tryz.underlying9
 a9 := Tryz.isAgg9
 z9 := Tryz.sizeOf9
 v9 := Tryz.zeroValue9 }
open Go.RowKit Go.Lib in
theorem Tryz.strings_TrimSuffix (s p : ByteArray) (w : World) (hs : s.size <= 9223372036854775807) :
 Calls Tryz.prog 116 #[.string s, .string p] w fun e w' => e = .returned (.string ⟨(Lib.trimSuffix s.data.toList p.data.toList).toArray⟩) /\ w' = w := Any.strings_TrimSuffix Tryz.lays102 s p w hs
def Tryz.laysnb115_ren : Go.Shelf.Ren := ⟨fun | 115 => 118 | n => n, fun | 37 => 27 | 4 => 4 | 9 => 9 | 5 => 5 | n => n, fun | n => n⟩
theorem Tryz.laysnb115 : Go.Proofs.Lays.nb115 Tryz.prog Tryz.laysnb115_ren := {
 mixed := by kernel_rfl
 f115 := Tryz.func118.trans (congrArg some (by kernel_rfl))
 t4 := Tryz.underlying4
 a4 := Tryz.isAgg4
 z4 := Tryz.sizeOf4
 v4 := Tryz.zeroValue4
 t9 := Tryz.underlying9
 a9 := Tryz.isAgg9
 z9 := Tryz.sizeOf9
 v9 := Tryz.zeroValue9
 t37 := Tryz.underlying27
 a37 := Tryz.isAgg27
 z37 := Tryz.sizeOf27
 v37 := Tryz.zeroValue27
 t5 := Tryz.underlying5
 a5 := Tryz.isAgg5
 z5 := Tryz.sizeOf5
 v5 := Tryz.zeroValue5 }
theorem Tryz.bytes_Equal_all (p1 p2 : Option Addr) (n c m d : Nat) (xs ys : List Int) (w : World) (hx : xs.length = n) (hy : ys.length = m) (h1 : Lib.BytesIn w p1 n xs) (h2 : Lib.BytesIn w p2 m ys) :
 Calls Tryz.prog 118 #[.slice p1 n c, .slice p2 m d] w fun e w' => e = .returned (.bool (Lib.bytesOf xs == Lib.bytesOf ys)) /\ w' = w := Any.bytes_Equal_all Tryz.laysnb115 p1 p2 n c m d xs ys w hx hy h1 h2
def Tryz.laysPa25_ren : Go.Shelf.Ren := ⟨fun | 25 => 87 | 45 => 114 | n => n, fun | 9 => 9 | 4 => 4 | 3 => 3 | 5 => 5 | n => n, fun | n => n⟩
theorem Tryz.laysPa25 : Go.Proofs.Lays.p25 Tryz.prog Tryz.laysPa25_ren := {
 mixed := by kernel_rfl
 f25 := Tryz.func87.trans (congrArg some (by kernel_rfl))
 f45 := Tryz.func114.trans (congrArg some (by kernel_rfl))
 t3 := Tryz.underlying3
 a3 := Tryz.isAgg3
 z3 := Tryz.sizeOf3
 v3 := Tryz.zeroValue3
 t4 := Tryz.underlying4
 a4 := Tryz.isAgg4
 z4 := Tryz.sizeOf4
 v4 := Tryz.zeroValue4
 t5 := Tryz.underlying5
 a5 := Tryz.isAgg5
 z5 := Tryz.sizeOf5
 v5 := Tryz.zeroValue5
 t9 := Tryz.underlying9
 a9 := Tryz.isAgg9
 z9 := Tryz.sizeOf9
 v9 := Tryz.zeroValue9 }
open Go.RowKit Go.Lib in
theorem Tryz.path_Base (s : ByteArray) (w : World) (hs : s.size <= 9223372036854775807) :
 Calls Tryz.prog 87 #[.string s] w fun e w' => e = .returned (.string ⟨(Pa.base s.data.toList).toArray⟩) /\ w' = w := Any.path_Base Tryz.laysPa25 s w hs
def Tryz.laysPah27_ren : Go.Shelf.Ren := ⟨fun | 27 => 86 | 29 => 113 | 30 => 108 | 45 => 114 | 46 => 127 | 47 => 128 | 48 => 129 | n => n, fun | 9 => 9 | 24 => 83 | 5 => 5 | 3 => 3 | 4 => 4 | 42 => 287 | 0 => 0 | 48 => 321 | 30 => 27 | n => n, fun | n => n⟩
theorem Tryz.laysPah27 : Go.Proofs.Lays.ph27 Tryz.prog Tryz.laysPah27_ren := {
 mixed := by kernel_rfl
 f27 := Tryz.func86.trans (congrArg some (by kernel_rfl))
 f29 := Tryz.func113.trans (congrArg some (by kernel_rfl))
 f30 := Tryz.func108.trans (congrArg some (by kernel_rfl))
 f45 := Tryz.func114.trans (congrArg some (by kernel_rfl))
 f46 := Tryz.func127.trans (congrArg some (by kernel_rfl))
 f47 := Tryz.func128.trans (congrArg some (by kernel_rfl))
 f48 := Tryz.func129.trans (congrArg some (by kernel_rfl))
 t0 := Tryz.underlying0
 a0 := Tryz.isAgg0
 z0 := Tryz.sizeOf0
 v0 := Tryz.zeroValue0
 t3 := Tryz.underlying3
 a3 := Tryz.isAgg3
 z3 := Tryz.sizeOf3
 v3 := Tryz.zeroValue3
 t4 := Tryz.underlying4
 a4 := Tryz.isAgg4
 z4 := Tryz.sizeOf4
 v4 := Tryz.zeroValue4
 t5 := Tryz.underlying5
 a5 := Tryz.isAgg5
 z5 := Tryz.sizeOf5
 v5 := Tryz.zeroValue5
 t9 := Tryz.underlying9
 a9 := Tryz.isAgg9
 z9 := Tryz.sizeOf9
 v9 := Tryz.zeroValue9
 t24 := Tryz.underlying83
 a24 := Tryz.isAgg83
 z24 := Tryz.sizeOf83
 v24 := Tryz.zeroValue83
 t30 := Tryz.underlying27
 a30 := Tryz.isAgg27
 z30 := Tryz.sizeOf27
 v30 := Tryz.zeroValue27
 t42 := Tryz.underlying287
 a42 := Tryz.isAgg287
 z42 := Tryz.sizeOf287
 v42 := Tryz.zeroValue287
 t48 := Tryz.underlying321
 a48 := Tryz.isAgg321
 z48 := Tryz.sizeOf321
 v48 := Tryz.zeroValue321
 info5 := by kernel_rfl }
def Tryz.laysPah31_ren : Go.Shelf.Ren := ⟨fun | 31 => 83 | 30 => 108 | 46 => 127 | 47 => 128 | 48 => 129 | n => n, fun | 26 => 43 | 9 => 9 | 3 => 3 | 0 => 0 | 4 => 4 | 30 => 27 | 5 => 5 | 42 => 287 | 48 => 321 | n => n, fun | n => n⟩
theorem Tryz.laysPah31 : Go.Proofs.Lays.ph31 Tryz.prog Tryz.laysPah31_ren := {
 mixed := by kernel_rfl
 f30 := Tryz.func108.trans (congrArg some (by kernel_rfl))
 f31 := Tryz.func83.trans (congrArg some (by kernel_rfl))
 f46 := Tryz.func127.trans (congrArg some (by kernel_rfl))
 f47 := Tryz.func128.trans (congrArg some (by kernel_rfl))
 f48 := Tryz.func129.trans (congrArg some (by kernel_rfl))
 t0 := Tryz.underlying0
 a0 := Tryz.isAgg0
 z0 := Tryz.sizeOf0
 v0 := Tryz.zeroValue0
 t3 := Tryz.underlying3
 a3 := Tryz.isAgg3
 z3 := Tryz.sizeOf3
 v3 := Tryz.zeroValue3
 t4 := Tryz.underlying4
 a4 := Tryz.isAgg4
 z4 := Tryz.sizeOf4
 v4 := Tryz.zeroValue4
 t5 := Tryz.underlying5
 a5 := Tryz.isAgg5
 z5 := Tryz.sizeOf5
 v5 := Tryz.zeroValue5
 t9 := Tryz.underlying9
 a9 := Tryz.isAgg9
 z9 := Tryz.sizeOf9
 v9 := Tryz.zeroValue9
 t26 := Tryz.underlying43
 a26 := Tryz.isAgg43
 z26 := Tryz.sizeOf43
 v26 := Tryz.zeroValue43
 t30 := Tryz.underlying27
 a30 := Tryz.isAgg27
 z30 := Tryz.sizeOf27
 v30 := Tryz.zeroValue27
 t42 := Tryz.underlying287
 a42 := Tryz.isAgg287
 z42 := Tryz.sizeOf287
 v42 := Tryz.zeroValue287
 t48 := Tryz.underlying321
 a48 := Tryz.isAgg321
 z48 := Tryz.sizeOf321
 v48 := Tryz.zeroValue321
 info5 := by kernel_rfl }
open Go.RowKit Go.Lib in
theorem Tryz.path_Dir_rules (s : ByteArray) (w : World) (hbig : s.size <= 281474976710656) :
 Calls Tryz.prog 86 #[.string s] w fun e w' => e = .returned (.string ⟨(Pa.cleanEls (Pa.split s.data.toList).1).toArray⟩) /\ Below w.heap.size w w' := Any.path_Dir_rules Tryz.laysPah27 s w hbig
open Go.RowKit Go.Lib in
theorem Tryz.path_Join_rules (bk o c : Nat) (xs : List ByteArray) (w : World) (hcells : ∀ (j : Nat) x, xs[j]? = some x -> w.cell? ⟨bk, o + j, none⟩ = some (.string x)) (hbk : bk < w.heap.size) (hlen : Pa.lens (xs.map (·.data.toList)) + xs.length <= 281474976710656) :
 Calls Tryz.prog 83 #[.slice (some ⟨bk, o, none⟩) xs.length c] w fun e w' => e = .returned (.string ⟨(Pa.join (xs.map (·.data.toList))).toArray⟩) /\ Below w.heap.size w w' := Any.path_Join_rules Tryz.laysPah31 bk o c xs w hcells hbk hlen
end Go.Proofs
end
