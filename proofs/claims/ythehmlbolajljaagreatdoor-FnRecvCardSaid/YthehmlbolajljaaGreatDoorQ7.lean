/- Part 7 of the proof: Shelf. -/
import Derived.Shelf.LaysM
import Derived.Shelf.Bytes.Len
import Derived.Shelf.Bytes.TryGrow
import Derived.Shelf.Bytes.GrowSliceCatch
import Derived.Shelf.Bytes.GrowSlice
import Derived.Shelf.Bytes.GrowRow0
import Derived.Shelf.Bytes.GrowRow
import Derived.Shelf.Bytes.GrowNil
import Derived.Shelf.Bytes.Grow
import Derived.Shelf.Bytes.Write
import Derived.Ground.MnProg
import Derived.Shelf.Bin.LEUint64
import Derived.Shelf.Bin.LEPutUint64
import Derived.Shelf.Bin.BEUint16
import Derived.Shelf.Bin.BEPutUint16
import Derived.Shelf.Bin.BEUint32
import Derived.Shelf.Bin.BEPutUint32
import Derived.Shelf.Bin.BEUint64
import Derived.Shelf.Bin.BEPutUint64
import Derived.Shelf.Bytes.GrowRow0Own
import Derived.Shelf.Bytes.GrowRowOwn
import Derived.Shelf.Bytes.GrowNilOwn
import Derived.Shelf.Bytes.GrowOwn
import Derived.Shelf.Bytes.WriteAny
import Derived.Test.YthehmlbolajljaaGreatDoorProg
set_option linter.unusedVariables false
set_option linter.unusedSimpArgs false
set_option linter.unusedSectionVars false
set_option maxHeartbeats 16000000
namespace Go.Proofs
open Go.Shelf
open Go.RowKit in
def Tryz.laysM251_ren : Go.Shelf.Ren := ⟨fun | 251 => 79 | n => n, fun | 130 => 84 | 3 => 3 | 4 => 4 | 0 => 0 | 93 => 163 | 37 => 24 | 91 => 161 | 5 => 5 | n => n, fun | n => n⟩
theorem Tryz.laysM251 : Go.Proofs.LaysM.n251 Tryz.prog Tryz.laysM251_ren := {
 mixed := by kernel_rfl
 f251 := Tryz.func79.trans (congrArg some (by kernel_rfl))
 t0 := Tryz.underlying0
 a0 := Tryz.isAgg0
 z0 := Tryz.sizeOf0
 v0 := Tryz.zeroValue0
 t3 := Tryz.underlying3
 a3 := Tryz.isAgg3
 z3 := Tryz.sizeOf3
 v3 := Tryz.zeroValue3
 t4 := Tryz.underlying4
 a4 := Tryz.isAgg4
 z4 := Tryz.sizeOf4
 v4 := Tryz.zeroValue4
 t37 := Tryz.underlying24
 a37 := Tryz.isAgg24
 z37 := Tryz.sizeOf24
 v37 := Tryz.zeroValue24
 t93 := Tryz.underlying163
 a93 := Tryz.isAgg163
 z93 := Tryz.sizeOf163
 v93 := Tryz.zeroValue163
 t130 := Tryz.underlying84
 a130 := Tryz.isAgg84
 z130 := Tryz.sizeOf84
 v130 := Tryz.zeroValue84
 t5 := Tryz.underlying5
 a5 := Tryz.isAgg5
 z5 := Tryz.sizeOf5
 v5 := Tryz.zeroValue5
 t91 := Tryz.underlying161
 a91 := Tryz.isAgg161
 z91 := Tryz.sizeOf161
 v91 := Tryz.zeroValue161
 i0 := by kernel_rfl
 i3 := by kernel_rfl
 i4 := by kernel_rfl
 i5 := by kernel_rfl
 i37 := by kernel_rfl
 i91 := by kernel_rfl
 i93 := by kernel_rfl
 i130 := by kernel_rfl }
open Go.RowKit in
theorem Tryz.Buffer_tryGrow_room (b : Nat) (ao : Option Addr) (l cap n : Nat) (w : World) (c0 : w.cell? ⟨b, 0, none⟩ = some (.slice ao l cap)) (f0 : w.frozen? ⟨b, 0, none⟩ = false) (hlc : l ≤ cap) (hcap : cap ≤ maxLen) (hn : n ≤ cap - l) :
  Calls Tryz.prog 79 #[.pointer (some ⟨b, 0, none⟩), .int .i64 n] w fun e w' => e = .returned (.tuple #[.int .i64 l, .bool true]) ∧ w' = w.setCell ⟨b, 0, none⟩ (.slice ao (l + n) cap) := Any.Buffer_tryGrow_room Tryz.laysM251 b ao l cap n w c0 f0 hlc hcap hn
open Go.RowKit in
open Go.RowKit in
open Go.RowKit in
open Go.RowKit in
open Go.RowKit in
open Go.RowKit in
open Go.RowKit in
open Go.RowKit in
open Go.RowKit in
def Tryz.laysM180_ren : Go.Shelf.Ren := ⟨fun | 180 => 53 | 251 => 79 | 252 => 80 | 181 => 31 | 184 => 68 | 290 => 97 | 324 => 118 | n => n, fun | 130 => 84 | 37 => 24 | 3 => 3 | 75 => 72 | 0 => 0 | 93 => 163 | 91 => 161 | 131 => 215 | 4 => 4 | 20 => 20 | 5 => 5 | 80 => 193 | 9 => 9 | n => n, fun | 14 => 3 | n => n⟩
theorem Tryz.laysM180 : Go.Proofs.LaysM.n180 Tryz.prog Tryz.laysM180_ren := {
 mixed := by kernel_rfl
 f180 := Tryz.func53.trans (congrArg some (by kernel_rfl))
 f181 := Tryz.func31.trans (congrArg some (by kernel_rfl))
 f184 := Tryz.func68.trans (congrArg some (by kernel_rfl))
 f251 := Tryz.func79.trans (congrArg some (by kernel_rfl))
 f252 := Tryz.func80.trans (congrArg some (by kernel_rfl))
 f290 := Tryz.func97.trans (congrArg some (by kernel_rfl))
 f324 := Tryz.func118.trans (congrArg some (by kernel_rfl))
 t0 := Tryz.underlying0
 a0 := Tryz.isAgg0
 z0 := Tryz.sizeOf0
 v0 := Tryz.zeroValue0
 t3 := Tryz.underlying3
 a3 := Tryz.isAgg3
 z3 := Tryz.sizeOf3
 v3 := Tryz.zeroValue3
 t4 := Tryz.underlying4
 a4 := Tryz.isAgg4
 z4 := Tryz.sizeOf4
 v4 := Tryz.zeroValue4
 t20 := Tryz.underlying20
 a20 := Tryz.isAgg20
 z20 := Tryz.sizeOf20
 v20 := Tryz.zeroValue20
 t37 := Tryz.underlying24
 a37 := Tryz.isAgg24
 z37 := Tryz.sizeOf24
 v37 := Tryz.zeroValue24
 t75 := Tryz.underlying72
 a75 := Tryz.isAgg72
 z75 := Tryz.sizeOf72
 v75 := Tryz.zeroValue72
 t91 := Tryz.underlying161
 a91 := Tryz.isAgg161
 z91 := Tryz.sizeOf161
 v91 := Tryz.zeroValue161
 t93 := Tryz.underlying163
 a93 := Tryz.isAgg163
 z93 := Tryz.sizeOf163
 v93 := Tryz.zeroValue163
 t130 := Tryz.underlying84
 a130 := Tryz.isAgg84
 z130 := Tryz.sizeOf84
 v130 := Tryz.zeroValue84
 t131 := Tryz.underlying215
 a131 := Tryz.isAgg215
 z131 := Tryz.sizeOf215
 v131 := Tryz.zeroValue215
 g14 := by kernel_rfl
 t5 := Tryz.underlying5
 a5 := Tryz.isAgg5
 z5 := Tryz.sizeOf5
 v5 := Tryz.zeroValue5
 t9 := Tryz.underlying9
 a9 := Tryz.isAgg9
 z9 := Tryz.sizeOf9
 v9 := Tryz.zeroValue9
 t80 := Tryz.underlying193
 a80 := Tryz.isAgg193
 z80 := Tryz.sizeOf193
 v80 := Tryz.zeroValue193
 i0 := by kernel_rfl
 i3 := by kernel_rfl
 i4 := by kernel_rfl
 i5 := by kernel_rfl
 i9 := by kernel_rfl
 i20 := by kernel_rfl
 i37 := by kernel_rfl
 i75 := by kernel_rfl
 i80 := by kernel_rfl
 i91 := by kernel_rfl
 i93 := by kernel_rfl
 i130 := by kernel_rfl
 i131 := by kernel_rfl
 m14 := by kernel_rfl }
open Go.RowKit in
def Tryz.laysBin33_ren : Go.Shelf.Ren := ⟨fun | 33 => 250 | n => n, fun | 25 => 370 | 22 => 24 | 33 => 202 | 0 => 0 | 5 => 5 | 45 => 294 | n => n, fun | n => n⟩
theorem Tryz.laysBin33 : Go.Proofs.LaysBin.n33 Tryz.prog Tryz.laysBin33_ren := {
 mixed := by kernel_rfl
 f33 := Tryz.func250.trans (congrArg some (by kernel_rfl))
 t0 := Tryz.underlying0
 a0 := Tryz.isAgg0
 z0 := Tryz.sizeOf0
 v0 := Tryz.zeroValue0
 i0 := by kernel_rfl
 t5 := Tryz.underlying5
 a5 := Tryz.isAgg5
 z5 := Tryz.sizeOf5
 v5 := Tryz.zeroValue5
 i5 := by kernel_rfl
 t22 := Tryz.underlying24
 a22 := Tryz.isAgg24
 z22 := Tryz.sizeOf24
 v22 := Tryz.zeroValue24
 i22 := by kernel_rfl
 t25 := Tryz.underlying370
 a25 := Tryz.isAgg370
 z25 := Tryz.sizeOf370
 v25 := Tryz.zeroValue370
 i25 := by kernel_rfl
 t33 := Tryz.underlying202
 a33 := Tryz.isAgg202
 z33 := Tryz.sizeOf202
 v33 := Tryz.zeroValue202
 i33 := by kernel_rfl
 t45 := Tryz.underlying294
 a45 := Tryz.isAgg294
 z45 := Tryz.sizeOf294
 v45 := Tryz.zeroValue294
 i45 := by kernel_rfl }
open Go.RowKit in
theorem Tryz.binary_LE_Uint64 (g o n c : Nat) (b0 b1 b2 b3 b4 b5 b6 b7 : UInt8) (w : World) (hn : 8 ≤ n) (c0 : w.cell? ⟨g, o, none⟩ = some (.int .u8 b0.toNat)) (c1 : w.cell? ⟨g, o + 1, none⟩ = some (.int .u8 b1.toNat)) (c2 : w.cell? ⟨g, o + 2, none⟩ = some (.int .u8 b2.toNat)) (c3 : w.cell? ⟨g, o + 3, none⟩ = some (.int .u8 b3.toNat)) (c4 : w.cell? ⟨g, o + 4, none⟩ = some (.int .u8 b4.toNat)) (c5 : w.cell? ⟨g, o + 5, none⟩ = some (.int .u8 b5.toNat)) (c6 : w.cell? ⟨g, o + 6, none⟩ = some (.int .u8 b6.toNat)) (c7 : w.cell? ⟨g, o + 7, none⟩ = some (.int .u8 b7.toNat)) :
  Calls Tryz.prog 250 #[.agg #[], .slice (some ⟨g, o, none⟩) n c] w fun e w' => e = .returned (.int .u64 (Lib.leNat [b0, b1, b2, b3, b4, b5, b6, b7])) ∧ Below w.heap.size w w' := Any.binary_LE_Uint64 Tryz.laysBin33 g o n c b0 b1 b2 b3 b4 b5 b6 b7 w hn c0 c1 c2 c3 c4 c5 c6 c7
open Go.RowKit in
def Tryz.laysBin36_ren : Go.Shelf.Ren := ⟨fun | 36 => 304 | n => n, fun | 37 => 395 | 22 => 24 | 23 => 396 | 0 => 0 | 5 => 5 | 45 => 294 | n => n, fun | n => n⟩
theorem Tryz.laysBin36 : Go.Proofs.LaysBin.n36 Tryz.prog Tryz.laysBin36_ren := {
 mixed := by kernel_rfl
 f36 := Tryz.func304.trans (congrArg some (by kernel_rfl))
 t0 := Tryz.underlying0
 a0 := Tryz.isAgg0
 z0 := Tryz.sizeOf0
 v0 := Tryz.zeroValue0
 i0 := by kernel_rfl
 t5 := Tryz.underlying5
 a5 := Tryz.isAgg5
 z5 := Tryz.sizeOf5
 v5 := Tryz.zeroValue5
 i5 := by kernel_rfl
 t22 := Tryz.underlying24
 a22 := Tryz.isAgg24
 z22 := Tryz.sizeOf24
 v22 := Tryz.zeroValue24
 i22 := by kernel_rfl
 t23 := Tryz.underlying396
 a23 := Tryz.isAgg396
 z23 := Tryz.sizeOf396
 v23 := Tryz.zeroValue396
 i23 := by kernel_rfl
 t37 := Tryz.underlying395
 a37 := Tryz.isAgg395
 z37 := Tryz.sizeOf395
 v37 := Tryz.zeroValue395
 i37 := by kernel_rfl
 t45 := Tryz.underlying294
 a45 := Tryz.isAgg294
 z45 := Tryz.sizeOf294
 v45 := Tryz.zeroValue294
 i45 := by kernel_rfl }
open Go.RowKit in
theorem Tryz.binary_BE_Uint16 (g o n c : Nat) (b0 b1 : UInt8) (w : World) (hn : 2 ≤ n) (c0 : w.cell? ⟨g, o, none⟩ = some (.int .u8 b0.toNat)) (c1 : w.cell? ⟨g, o + 1, none⟩ = some (.int .u8 b1.toNat)) :
  Calls Tryz.prog 304 #[.agg #[], .slice (some ⟨g, o, none⟩) n c] w fun e w' => e = .returned (.int .u16 (Lib.beNat [b0, b1])) ∧ Below w.heap.size w w' := Any.binary_BE_Uint16 Tryz.laysBin36 g o n c b0 b1 w hn c0 c1
open Go.RowKit in
def Tryz.laysBin39_ren : Go.Shelf.Ren := ⟨fun | 39 => 305 | n => n, fun | 37 => 395 | 22 => 24 | 29 => 296 | 0 => 0 | 5 => 5 | 45 => 294 | n => n, fun | n => n⟩
theorem Tryz.laysBin39 : Go.Proofs.LaysBin.n39 Tryz.prog Tryz.laysBin39_ren := {
 mixed := by kernel_rfl
 f39 := Tryz.func305.trans (congrArg some (by kernel_rfl))
 t0 := Tryz.underlying0
 a0 := Tryz.isAgg0
 z0 := Tryz.sizeOf0
 v0 := Tryz.zeroValue0
 i0 := by kernel_rfl
 t5 := Tryz.underlying5
 a5 := Tryz.isAgg5
 z5 := Tryz.sizeOf5
 v5 := Tryz.zeroValue5
 i5 := by kernel_rfl
 t22 := Tryz.underlying24
 a22 := Tryz.isAgg24
 z22 := Tryz.sizeOf24
 v22 := Tryz.zeroValue24
 i22 := by kernel_rfl
 t29 := Tryz.underlying296
 a29 := Tryz.isAgg296
 z29 := Tryz.sizeOf296
 v29 := Tryz.zeroValue296
 i29 := by kernel_rfl
 t37 := Tryz.underlying395
 a37 := Tryz.isAgg395
 z37 := Tryz.sizeOf395
 v37 := Tryz.zeroValue395
 i37 := by kernel_rfl
 t45 := Tryz.underlying294
 a45 := Tryz.isAgg294
 z45 := Tryz.sizeOf294
 v45 := Tryz.zeroValue294
 i45 := by kernel_rfl }
open Go.RowKit in
theorem Tryz.binary_BE_Uint32 (g o n c : Nat) (b0 b1 b2 b3 : UInt8) (w : World) (hn : 4 ≤ n) (c0 : w.cell? ⟨g, o, none⟩ = some (.int .u8 b0.toNat)) (c1 : w.cell? ⟨g, o + 1, none⟩ = some (.int .u8 b1.toNat)) (c2 : w.cell? ⟨g, o + 2, none⟩ = some (.int .u8 b2.toNat)) (c3 : w.cell? ⟨g, o + 3, none⟩ = some (.int .u8 b3.toNat)) :
  Calls Tryz.prog 305 #[.agg #[], .slice (some ⟨g, o, none⟩) n c] w fun e w' => e = .returned (.int .u32 (Lib.beNat [b0, b1, b2, b3])) ∧ Below w.heap.size w w' := Any.binary_BE_Uint32 Tryz.laysBin39 g o n c b0 b1 b2 b3 w hn c0 c1 c2 c3
def Tryz.laysBin40_ren : Go.Shelf.Ren := ⟨fun | 40 => 310 | n => n, fun | 37 => 395 | 22 => 24 | 29 => 296 | 0 => 0 | 5 => 5 | 45 => 294 | n => n, fun | n => n⟩
theorem Tryz.laysBin40 : Go.Proofs.LaysBin.n40 Tryz.prog Tryz.laysBin40_ren := {
 mixed := by kernel_rfl
 f40 := Tryz.func310.trans (congrArg some (by kernel_rfl))
 t0 := Tryz.underlying0
 a0 := Tryz.isAgg0
 z0 := Tryz.sizeOf0
 v0 := Tryz.zeroValue0
 i0 := by kernel_rfl
 t5 := Tryz.underlying5
 a5 := Tryz.isAgg5
 z5 := Tryz.sizeOf5
 v5 := Tryz.zeroValue5
 i5 := by kernel_rfl
 t22 := Tryz.underlying24
 a22 := Tryz.isAgg24
 z22 := Tryz.sizeOf24
 v22 := Tryz.zeroValue24
 i22 := by kernel_rfl
 t29 := Tryz.underlying296
 a29 := Tryz.isAgg296
 z29 := Tryz.sizeOf296
 v29 := Tryz.zeroValue296
 i29 := by kernel_rfl
 t37 := Tryz.underlying395
 a37 := Tryz.isAgg395
 z37 := Tryz.sizeOf395
 v37 := Tryz.zeroValue395
 i37 := by kernel_rfl
 t45 := Tryz.underlying294
 a45 := Tryz.isAgg294
 z45 := Tryz.sizeOf294
 v45 := Tryz.zeroValue294
 i45 := by kernel_rfl }
open Go.RowKit in
theorem Tryz.binary_BE_PutUint32 (g o n c v : Nat) (hv : v < 4294967296) (x0 x1 x2 x3 : Value) (w : World) (hn : 4 ≤ n) (c0 : w.cell? ⟨g, o, none⟩ = some x0) (c1 : w.cell? ⟨g, o + 1, none⟩ = some x1) (c2 : w.cell? ⟨g, o + 2, none⟩ = some x2) (c3 : w.cell? ⟨g, o + 3, none⟩ = some x3) (f0 : w.frozen? ⟨g, o, none⟩ = false) (f1 : w.frozen? ⟨g, o + 1, none⟩ = false) (f2 : w.frozen? ⟨g, o + 2, none⟩ = false) (f3 : w.frozen? ⟨g, o + 3, none⟩ = false) :
  Calls Tryz.prog 310 #[.agg #[], .slice (some ⟨g, o, none⟩) n c, .int .u32 v] w fun e w' => e = .returned (.tuple #[]) ∧ w' = (w.alloc (.cells #[] 395)).setCells g o (Lib.byteCells (Lib.beBytes 4 v)) := Any.binary_BE_PutUint32 Tryz.laysBin40 g o n c v hv x0 x1 x2 x3 w hn c0 c1 c2 c3 f0 f1 f2 f3
def Tryz.laysBin42_ren : Go.Shelf.Ren := ⟨fun | 42 => 303 | n => n, fun | 37 => 395 | 22 => 24 | 33 => 202 | 0 => 0 | 5 => 5 | 45 => 294 | n => n, fun | n => n⟩
theorem Tryz.laysBin42 : Go.Proofs.LaysBin.n42 Tryz.prog Tryz.laysBin42_ren := {
 mixed := by kernel_rfl
 f42 := Tryz.func303.trans (congrArg some (by kernel_rfl))
 t0 := Tryz.underlying0
 a0 := Tryz.isAgg0
 z0 := Tryz.sizeOf0
 v0 := Tryz.zeroValue0
 i0 := by kernel_rfl
 t5 := Tryz.underlying5
 a5 := Tryz.isAgg5
 z5 := Tryz.sizeOf5
 v5 := Tryz.zeroValue5
 i5 := by kernel_rfl
 t22 := Tryz.underlying24
 a22 := Tryz.isAgg24
 z22 := Tryz.sizeOf24
 v22 := Tryz.zeroValue24
 i22 := by kernel_rfl
 t33 := Tryz.underlying202
 a33 := Tryz.isAgg202
 z33 := Tryz.sizeOf202
 v33 := Tryz.zeroValue202
 i33 := by kernel_rfl
 t37 := Tryz.underlying395
 a37 := Tryz.isAgg395
 z37 := Tryz.sizeOf395
 v37 := Tryz.zeroValue395
 i37 := by kernel_rfl
 t45 := Tryz.underlying294
 a45 := Tryz.isAgg294
 z45 := Tryz.sizeOf294
 v45 := Tryz.zeroValue294
 i45 := by kernel_rfl }
open Go.RowKit in
theorem Tryz.binary_BE_Uint64 (g o n c : Nat) (b0 b1 b2 b3 b4 b5 b6 b7 : UInt8) (w : World) (hn : 8 ≤ n) (c0 : w.cell? ⟨g, o, none⟩ = some (.int .u8 b0.toNat)) (c1 : w.cell? ⟨g, o + 1, none⟩ = some (.int .u8 b1.toNat)) (c2 : w.cell? ⟨g, o + 2, none⟩ = some (.int .u8 b2.toNat)) (c3 : w.cell? ⟨g, o + 3, none⟩ = some (.int .u8 b3.toNat)) (c4 : w.cell? ⟨g, o + 4, none⟩ = some (.int .u8 b4.toNat)) (c5 : w.cell? ⟨g, o + 5, none⟩ = some (.int .u8 b5.toNat)) (c6 : w.cell? ⟨g, o + 6, none⟩ = some (.int .u8 b6.toNat)) (c7 : w.cell? ⟨g, o + 7, none⟩ = some (.int .u8 b7.toNat)) :
  Calls Tryz.prog 303 #[.agg #[], .slice (some ⟨g, o, none⟩) n c] w fun e w' => e = .returned (.int .u64 (Lib.beNat [b0, b1, b2, b3, b4, b5, b6, b7])) ∧ Below w.heap.size w w' := Any.binary_BE_Uint64 Tryz.laysBin42 g o n c b0 b1 b2 b3 b4 b5 b6 b7 w hn c0 c1 c2 c3 c4 c5 c6 c7
open Go.RowKit in
open Go.RowKit in
open Go.RowKit in
open Go.RowKit in
open Go.RowKit in
open Go.RowKit in
open Go.RowKit in
open Go.RowKit in
theorem Tryz.Buffer_Write_any (B b : Nat) (bs cs : List Value) (a : Addr) (n c : Nat) (w : World) (h : Lib.IsBuffer 163 5 B b bs w) (hBw : B ≤ w.heap.size) (h1 : ∀ v ∈ bs, v.oneCell' = true) (hn : cs.length = n) (hab : a.block ≠ b) (hsrc : ∀ j v, cs[j]? = some v → w.cell? (a.add j) = some v) (h1c : ∀ v ∈ cs, v.oneCell' = true) (hlim : bs.length + n ≤ 140737488355328) :
  Calls Tryz.prog 53 #[.pointer (some ⟨b, 0, none⟩), .slice (some a) n c] w fun e w' => e = .returned (.tuple #[.int .i64 n, .nilIface]) ∧ Lib.IsBuffer 163 5 B b (bs ++ cs) w' ∧ Below B w w' ∧ Lib.OthersKept 5 (some b) w w' := Any.Buffer_Write_any Tryz.laysM180 B b bs cs a n c w h hBw h1 hn hab hsrc h1c hlim
end Go.Proofs
