/- Part 10 of the proof: Shelf. -/
import Derived.Shelf.LaysM
import Derived.Shelf.Bytes.Len
import Derived.Shelf.Bytes.TryGrow
import Derived.Shelf.Bytes.GrowSliceCatch
import Derived.Shelf.Bytes.GrowSlice
import Derived.Shelf.Bytes.GrowRow0
import Derived.Shelf.Bytes.GrowRow
import Derived.Shelf.Bytes.GrowNil
import Derived.Shelf.Bytes.Grow
import Derived.Shelf.Bytes.Write
import Derived.Ground.MnProg
import Derived.Shelf.Bin.LEUint64
import Derived.Shelf.Bin.LEPutUint64
import Derived.Shelf.Bin.BEUint16
import Derived.Shelf.Bin.BEPutUint16
import Derived.Shelf.Bin.BEUint32
import Derived.Shelf.Bin.BEPutUint32
import Derived.Shelf.Bin.BEUint64
import Derived.Shelf.Bin.BEPutUint64
import Derived.Shelf.Bytes.GrowRow0Own
import Derived.Shelf.Bytes.GrowRowOwn
import Derived.Shelf.Bytes.GrowNilOwn
import Derived.Shelf.Bytes.GrowOwn
import Derived.Shelf.Bytes.WriteAny
import Derived.Test.YtjekbomlpcdojaaGreatDoorProg
set_option linter.unusedVariables false
set_option linter.unusedSimpArgs false
set_option linter.unusedSectionVars false
set_option maxHeartbeats 16000000
namespace Go.Proofs
open Go.Shelf
open Go.RowKit in
def Tryz.laysM251_ren : Go.Shelf.Ren := ⟨fun | 251 => 101 | n => n, fun | 130 => 134 | 3 => 3 | 4 => 4 | 0 => 0 | 93 => 208 | 37 => 24 | 91 => 206 | 5 => 5 | n => n, fun | n => n⟩
theorem Tryz.laysM251 : Go.Proofs.LaysM.n251 Tryz.prog Tryz.laysM251_ren := {
 mixed := by kernel_rfl
 f251 := Tryz.func101.trans (congrArg some (by kernel_rfl))
 t0 := Tryz.underlying0
 a0 := Tryz.isAgg0
 z0 := Tryz.sizeOf0
 v0 := Tryz.zeroValue0
 t3 := Tryz.underlying3
 a3 := Tryz.isAgg3
 z3 := Tryz.sizeOf3
 v3 := Tryz.zeroValue3
 t4 := Tryz.underlying4
 a4 := Tryz.isAgg4
 z4 := Tryz.sizeOf4
 v4 := Tryz.zeroValue4
 t37 := Tryz.underlying24
 a37 := Tryz.isAgg24
 z37 := Tryz.sizeOf24
 v37 := Tryz.zeroValue24
 t93 := Tryz.underlying208
 a93 := Tryz.isAgg208
 z93 := Tryz.sizeOf208
 v93 := Tryz.zeroValue208
 t130 := Tryz.underlying134
 a130 := Tryz.isAgg134
 z130 := Tryz.sizeOf134
 v130 := Tryz.zeroValue134
 t5 := Tryz.underlying5
 a5 := Tryz.isAgg5
 z5 := Tryz.sizeOf5
 v5 := Tryz.zeroValue5
 t91 := Tryz.underlying206
 a91 := Tryz.isAgg206
 z91 := Tryz.sizeOf206
 v91 := Tryz.zeroValue206
 i0 := by kernel_rfl
 i3 := by kernel_rfl
 i4 := by kernel_rfl
 i5 := by kernel_rfl
 i37 := by kernel_rfl
 i91 := by kernel_rfl
 i93 := by kernel_rfl
 i130 := by kernel_rfl }
open Go.RowKit in
theorem Tryz.Buffer_tryGrow_room (b : Nat) (ao : Option Addr) (l cap n : Nat) (w : World) (c0 : w.cell? ⟨b, 0, none⟩ = some (.slice ao l cap)) (f0 : w.frozen? ⟨b, 0, none⟩ = false) (hlc : l ≤ cap) (hcap : cap ≤ maxLen) (hn : n ≤ cap - l) :
  Calls Tryz.prog 101 #[.pointer (some ⟨b, 0, none⟩), .int .i64 n] w fun e w' => e = .returned (.tuple #[.int .i64 l, .bool true]) ∧ w' = w.setCell ⟨b, 0, none⟩ (.slice ao (l + n) cap) := Any.Buffer_tryGrow_room Tryz.laysM251 b ao l cap n w c0 f0 hlc hcap hn
open Go.RowKit in
open Go.RowKit in
open Go.RowKit in
open Go.RowKit in
open Go.RowKit in
open Go.RowKit in
open Go.RowKit in
open Go.RowKit in
open Go.RowKit in
def Tryz.laysM180_ren : Go.Shelf.Ren := ⟨fun | 180 => 73 | 251 => 101 | 252 => 102 | 181 => 62 | 184 => 72 | 290 => 135 | 324 => 158 | n => n, fun | 130 => 134 | 37 => 24 | 3 => 3 | 75 => 92 | 0 => 0 | 93 => 208 | 91 => 206 | 131 => 265 | 4 => 4 | 20 => 20 | 5 => 5 | 80 => 338 | 9 => 9 | n => n, fun | 14 => 3 | n => n⟩
theorem Tryz.laysM180 : Go.Proofs.LaysM.n180 Tryz.prog Tryz.laysM180_ren := {
 mixed := by kernel_rfl
 f180 := Tryz.func73.trans (congrArg some (by kernel_rfl))
 f181 := Tryz.func62.trans (congrArg some (by kernel_rfl))
 f184 := Tryz.func72.trans (congrArg some (by kernel_rfl))
 f251 := Tryz.func101.trans (congrArg some (by kernel_rfl))
 f252 := Tryz.func102.trans (congrArg some (by kernel_rfl))
 f290 := Tryz.func135.trans (congrArg some (by kernel_rfl))
 f324 := Tryz.func158.trans (congrArg some (by kernel_rfl))
 t0 := Tryz.underlying0
 a0 := Tryz.isAgg0
 z0 := Tryz.sizeOf0
 v0 := Tryz.zeroValue0
 t3 := Tryz.underlying3
 a3 := Tryz.isAgg3
 z3 := Tryz.sizeOf3
 v3 := Tryz.zeroValue3
 t4 := Tryz.underlying4
 a4 := Tryz.isAgg4
 z4 := Tryz.sizeOf4
 v4 := Tryz.zeroValue4
 t20 := Tryz.underlying20
 a20 := Tryz.isAgg20
 z20 := Tryz.sizeOf20
 v20 := Tryz.zeroValue20
 t37 := Tryz.underlying24
 a37 := Tryz.isAgg24
 z37 := Tryz.sizeOf24
 v37 := Tryz.zeroValue24
 t75 := Tryz.underlying92
 a75 := Tryz.isAgg92
 z75 := Tryz.sizeOf92
 v75 := Tryz.zeroValue92
 t91 := Tryz.underlying206
 a91 := Tryz.isAgg206
 z91 := Tryz.sizeOf206
 v91 := Tryz.zeroValue206
 t93 := Tryz.underlying208
 a93 := Tryz.isAgg208
 z93 := Tryz.sizeOf208
 v93 := Tryz.zeroValue208
 t130 := Tryz.underlying134
 a130 := Tryz.isAgg134
 z130 := Tryz.sizeOf134
 v130 := Tryz.zeroValue134
 t131 := Tryz.underlying265
 a131 := Tryz.isAgg265
 z131 := Tryz.sizeOf265
 v131 := Tryz.zeroValue265
 g14 := by kernel_rfl
 t5 := Tryz.underlying5
 a5 := Tryz.isAgg5
 z5 := Tryz.sizeOf5
 v5 := Tryz.zeroValue5
 t9 := Tryz.underlying9
 a9 := Tryz.isAgg9
 z9 := Tryz.sizeOf9
 v9 := Tryz.zeroValue9
 t80 := Tryz.underlying338
 a80 := Tryz.isAgg338
 z80 := Tryz.sizeOf338
 v80 := Tryz.zeroValue338
 i0 := by kernel_rfl
 i3 := by kernel_rfl
 i4 := by kernel_rfl
 i5 := by kernel_rfl
 i9 := by kernel_rfl
 i20 := by kernel_rfl
 i37 := by kernel_rfl
 i75 := by kernel_rfl
 i80 := by kernel_rfl
 i91 := by kernel_rfl
 i93 := by kernel_rfl
 i130 := by kernel_rfl
 i131 := by kernel_rfl
 m14 := by kernel_rfl }
open Go.RowKit in
def Tryz.laysBin33_ren : Go.Shelf.Ren := ⟨fun | 33 => 290 | n => n, fun | 25 => 423 | 22 => 24 | 33 => 235 | 0 => 0 | 5 => 5 | 45 => 344 | n => n, fun | n => n⟩
theorem Tryz.laysBin33 : Go.Proofs.LaysBin.n33 Tryz.prog Tryz.laysBin33_ren := {
 mixed := by kernel_rfl
 f33 := Tryz.func290.trans (congrArg some (by kernel_rfl))
 t0 := Tryz.underlying0
 a0 := Tryz.isAgg0
 z0 := Tryz.sizeOf0
 v0 := Tryz.zeroValue0
 i0 := by kernel_rfl
 t5 := Tryz.underlying5
 a5 := Tryz.isAgg5
 z5 := Tryz.sizeOf5
 v5 := Tryz.zeroValue5
 i5 := by kernel_rfl
 t22 := Tryz.underlying24
 a22 := Tryz.isAgg24
 z22 := Tryz.sizeOf24
 v22 := Tryz.zeroValue24
 i22 := by kernel_rfl
 t25 := Tryz.underlying423
 a25 := Tryz.isAgg423
 z25 := Tryz.sizeOf423
 v25 := Tryz.zeroValue423
 i25 := by kernel_rfl
 t33 := Tryz.underlying235
 a33 := Tryz.isAgg235
 z33 := Tryz.sizeOf235
 v33 := Tryz.zeroValue235
 i33 := by kernel_rfl
 t45 := Tryz.underlying344
 a45 := Tryz.isAgg344
 z45 := Tryz.sizeOf344
 v45 := Tryz.zeroValue344
 i45 := by kernel_rfl }
open Go.RowKit in
theorem Tryz.binary_LE_Uint64 (g o n c : Nat) (b0 b1 b2 b3 b4 b5 b6 b7 : UInt8) (w : World) (hn : 8 ≤ n) (c0 : w.cell? ⟨g, o, none⟩ = some (.int .u8 b0.toNat)) (c1 : w.cell? ⟨g, o + 1, none⟩ = some (.int .u8 b1.toNat)) (c2 : w.cell? ⟨g, o + 2, none⟩ = some (.int .u8 b2.toNat)) (c3 : w.cell? ⟨g, o + 3, none⟩ = some (.int .u8 b3.toNat)) (c4 : w.cell? ⟨g, o + 4, none⟩ = some (.int .u8 b4.toNat)) (c5 : w.cell? ⟨g, o + 5, none⟩ = some (.int .u8 b5.toNat)) (c6 : w.cell? ⟨g, o + 6, none⟩ = some (.int .u8 b6.toNat)) (c7 : w.cell? ⟨g, o + 7, none⟩ = some (.int .u8 b7.toNat)) :
  Calls Tryz.prog 290 #[.agg #[], .slice (some ⟨g, o, none⟩) n c] w fun e w' => e = .returned (.int .u64 (Lib.leNat [b0, b1, b2, b3, b4, b5, b6, b7])) ∧ Below w.heap.size w w' := Any.binary_LE_Uint64 Tryz.laysBin33 g o n c b0 b1 b2 b3 b4 b5 b6 b7 w hn c0 c1 c2 c3 c4 c5 c6 c7
open Go.RowKit in
def Tryz.laysBin36_ren : Go.Shelf.Ren := ⟨fun | 36 => 344 | n => n, fun | 37 => 448 | 22 => 24 | 23 => 449 | 0 => 0 | 5 => 5 | 45 => 344 | n => n, fun | n => n⟩
theorem Tryz.laysBin36 : Go.Proofs.LaysBin.n36 Tryz.prog Tryz.laysBin36_ren := {
 mixed := by kernel_rfl
 f36 := Tryz.func344.trans (congrArg some (by kernel_rfl))
 t0 := Tryz.underlying0
 a0 := Tryz.isAgg0
 z0 := Tryz.sizeOf0
 v0 := Tryz.zeroValue0
 i0 := by kernel_rfl
 t5 := Tryz.underlying5
 a5 := Tryz.isAgg5
 z5 := Tryz.sizeOf5
 v5 := Tryz.zeroValue5
 i5 := by kernel_rfl
 t22 := Tryz.underlying24
 a22 := Tryz.isAgg24
 z22 := Tryz.sizeOf24
 v22 := Tryz.zeroValue24
 i22 := by kernel_rfl
 t23 := Tryz.underlying449
 a23 := Tryz.isAgg449
 z23 := Tryz.sizeOf449
 v23 := Tryz.zeroValue449
 i23 := by kernel_rfl
 t37 := Tryz.underlying448
 a37 := Tryz.isAgg448
 z37 := Tryz.sizeOf448
 v37 := Tryz.zeroValue448
 i37 := by kernel_rfl
 t45 := Tryz.underlying344
 a45 := Tryz.isAgg344
 z45 := Tryz.sizeOf344
 v45 := Tryz.zeroValue344
 i45 := by kernel_rfl }
open Go.RowKit in
theorem Tryz.binary_BE_Uint16 (g o n c : Nat) (b0 b1 : UInt8) (w : World) (hn : 2 ≤ n) (c0 : w.cell? ⟨g, o, none⟩ = some (.int .u8 b0.toNat)) (c1 : w.cell? ⟨g, o + 1, none⟩ = some (.int .u8 b1.toNat)) :
  Calls Tryz.prog 344 #[.agg #[], .slice (some ⟨g, o, none⟩) n c] w fun e w' => e = .returned (.int .u16 (Lib.beNat [b0, b1])) ∧ Below w.heap.size w w' := Any.binary_BE_Uint16 Tryz.laysBin36 g o n c b0 b1 w hn c0 c1
open Go.RowKit in
def Tryz.laysBin39_ren : Go.Shelf.Ren := ⟨fun | 39 => 345 | n => n, fun | 37 => 448 | 22 => 24 | 29 => 346 | 0 => 0 | 5 => 5 | 45 => 344 | n => n, fun | n => n⟩
theorem Tryz.laysBin39 : Go.Proofs.LaysBin.n39 Tryz.prog Tryz.laysBin39_ren := {
 mixed := by kernel_rfl
 f39 := Tryz.func345.trans (congrArg some (by kernel_rfl))
 t0 := Tryz.underlying0
 a0 := Tryz.isAgg0
 z0 := Tryz.sizeOf0
 v0 := Tryz.zeroValue0
 i0 := by kernel_rfl
 t5 := Tryz.underlying5
 a5 := Tryz.isAgg5
 z5 := Tryz.sizeOf5
 v5 := Tryz.zeroValue5
 i5 := by kernel_rfl
 t22 := Tryz.underlying24
 a22 := Tryz.isAgg24
 z22 := Tryz.sizeOf24
 v22 := Tryz.zeroValue24
 i22 := by kernel_rfl
 t29 := Tryz.underlying346
 a29 := Tryz.isAgg346
 z29 := Tryz.sizeOf346
 v29 := Tryz.zeroValue346
 i29 := by kernel_rfl
 t37 := Tryz.underlying448
 a37 := Tryz.isAgg448
 z37 := Tryz.sizeOf448
 v37 := Tryz.zeroValue448
 i37 := by kernel_rfl
 t45 := Tryz.underlying344
 a45 := Tryz.isAgg344
 z45 := Tryz.sizeOf344
 v45 := Tryz.zeroValue344
 i45 := by kernel_rfl }
open Go.RowKit in
theorem Tryz.binary_BE_Uint32 (g o n c : Nat) (b0 b1 b2 b3 : UInt8) (w : World) (hn : 4 ≤ n) (c0 : w.cell? ⟨g, o, none⟩ = some (.int .u8 b0.toNat)) (c1 : w.cell? ⟨g, o + 1, none⟩ = some (.int .u8 b1.toNat)) (c2 : w.cell? ⟨g, o + 2, none⟩ = some (.int .u8 b2.toNat)) (c3 : w.cell? ⟨g, o + 3, none⟩ = some (.int .u8 b3.toNat)) :
  Calls Tryz.prog 345 #[.agg #[], .slice (some ⟨g, o, none⟩) n c] w fun e w' => e = .returned (.int .u32 (Lib.beNat [b0, b1, b2, b3])) ∧ Below w.heap.size w w' := Any.binary_BE_Uint32 Tryz.laysBin39 g o n c b0 b1 b2 b3 w hn c0 c1 c2 c3
def Tryz.laysBin40_ren : Go.Shelf.Ren := ⟨fun | 40 => 350 | n => n, fun | 37 => 448 | 22 => 24 | 29 => 346 | 0 => 0 | 5 => 5 | 45 => 344 | n => n, fun | n => n⟩
theorem Tryz.laysBin40 : Go.Proofs.LaysBin.n40 Tryz.prog Tryz.laysBin40_ren := {
 mixed := by kernel_rfl
 f40 := Tryz.func350.trans (congrArg some (by kernel_rfl))
 t0 := Tryz.underlying0
 a0 := Tryz.isAgg0
 z0 := Tryz.sizeOf0
 v0 := Tryz.zeroValue0
 i0 := by kernel_rfl
 t5 := Tryz.underlying5
 a5 := Tryz.isAgg5
 z5 := Tryz.sizeOf5
 v5 := Tryz.zeroValue5
 i5 := by kernel_rfl
 t22 := Tryz.underlying24
 a22 := Tryz.isAgg24
 z22 := Tryz.sizeOf24
 v22 := Tryz.zeroValue24
 i22 := by kernel_rfl
 t29 := Tryz.underlying346
 a29 := Tryz.isAgg346
 z29 := Tryz.sizeOf346
 v29 := Tryz.zeroValue346
 i29 := by kernel_rfl
 t37 := Tryz.underlying448
 a37 := Tryz.isAgg448
 z37 := Tryz.sizeOf448
 v37 := Tryz.zeroValue448
 i37 := by kernel_rfl
 t45 := Tryz.underlying344
 a45 := Tryz.isAgg344
 z45 := Tryz.sizeOf344
 v45 := Tryz.zeroValue344
 i45 := by kernel_rfl }
open Go.RowKit in
theorem Tryz.binary_BE_PutUint32 (g o n c v : Nat) (hv : v < 4294967296) (x0 x1 x2 x3 : Value) (w : World) (hn : 4 ≤ n) (c0 : w.cell? ⟨g, o, none⟩ = some x0) (c1 : w.cell? ⟨g, o + 1, none⟩ = some x1) (c2 : w.cell? ⟨g, o + 2, none⟩ = some x2) (c3 : w.cell? ⟨g, o + 3, none⟩ = some x3) (f0 : w.frozen? ⟨g, o, none⟩ = false) (f1 : w.frozen? ⟨g, o + 1, none⟩ = false) (f2 : w.frozen? ⟨g, o + 2, none⟩ = false) (f3 : w.frozen? ⟨g, o + 3, none⟩ = false) :
  Calls Tryz.prog 350 #[.agg #[], .slice (some ⟨g, o, none⟩) n c, .int .u32 v] w fun e w' => e = .returned (.tuple #[]) ∧ w' = (w.alloc (.cells #[] 448)).setCells g o (Lib.byteCells (Lib.beBytes 4 v)) := Any.binary_BE_PutUint32 Tryz.laysBin40 g o n c v hv x0 x1 x2 x3 w hn c0 c1 c2 c3 f0 f1 f2 f3
def Tryz.laysBin42_ren : Go.Shelf.Ren := ⟨fun | 42 => 343 | n => n, fun | 37 => 448 | 22 => 24 | 33 => 235 | 0 => 0 | 5 => 5 | 45 => 344 | n => n, fun | n => n⟩
theorem Tryz.laysBin42 : Go.Proofs.LaysBin.n42 Tryz.prog Tryz.laysBin42_ren := {
 mixed := by kernel_rfl
 f42 := Tryz.func343.trans (congrArg some (by kernel_rfl))
 t0 := Tryz.underlying0
 a0 := Tryz.isAgg0
 z0 := Tryz.sizeOf0
 v0 := Tryz.zeroValue0
 i0 := by kernel_rfl
 t5 := Tryz.underlying5
 a5 := Tryz.isAgg5
 z5 := Tryz.sizeOf5
 v5 := Tryz.zeroValue5
 i5 := by kernel_rfl
 t22 := Tryz.underlying24
 a22 := Tryz.isAgg24
 z22 := Tryz.sizeOf24
 v22 := Tryz.zeroValue24
 i22 := by kernel_rfl
 t33 := Tryz.underlying235
 a33 := Tryz.isAgg235
 z33 := Tryz.sizeOf235
 v33 := Tryz.zeroValue235
 i33 := by kernel_rfl
 t37 := Tryz.underlying448
 a37 := Tryz.isAgg448
 z37 := Tryz.sizeOf448
 v37 := Tryz.zeroValue448
 i37 := by kernel_rfl
 t45 := Tryz.underlying344
 a45 := Tryz.isAgg344
 z45 := Tryz.sizeOf344
 v45 := Tryz.zeroValue344
 i45 := by kernel_rfl }
open Go.RowKit in
theorem Tryz.binary_BE_Uint64 (g o n c : Nat) (b0 b1 b2 b3 b4 b5 b6 b7 : UInt8) (w : World) (hn : 8 ≤ n) (c0 : w.cell? ⟨g, o, none⟩ = some (.int .u8 b0.toNat)) (c1 : w.cell? ⟨g, o + 1, none⟩ = some (.int .u8 b1.toNat)) (c2 : w.cell? ⟨g, o + 2, none⟩ = some (.int .u8 b2.toNat)) (c3 : w.cell? ⟨g, o + 3, none⟩ = some (.int .u8 b3.toNat)) (c4 : w.cell? ⟨g, o + 4, none⟩ = some (.int .u8 b4.toNat)) (c5 : w.cell? ⟨g, o + 5, none⟩ = some (.int .u8 b5.toNat)) (c6 : w.cell? ⟨g, o + 6, none⟩ = some (.int .u8 b6.toNat)) (c7 : w.cell? ⟨g, o + 7, none⟩ = some (.int .u8 b7.toNat)) :
  Calls Tryz.prog 343 #[.agg #[], .slice (some ⟨g, o, none⟩) n c] w fun e w' => e = .returned (.int .u64 (Lib.beNat [b0, b1, b2, b3, b4, b5, b6, b7])) ∧ Below w.heap.size w w' := Any.binary_BE_Uint64 Tryz.laysBin42 g o n c b0 b1 b2 b3 b4 b5 b6 b7 w hn c0 c1 c2 c3 c4 c5 c6 c7
open Go.RowKit in
open Go.RowKit in
open Go.RowKit in
open Go.RowKit in
open Go.RowKit in
open Go.RowKit in
open Go.RowKit in
open Go.RowKit in
theorem Tryz.Buffer_Write_any (B b : Nat) (bs cs : List Value) (a : Addr) (n c : Nat) (w : World) (h : Lib.IsBuffer 208 5 B b bs w) (hBw : B ≤ w.heap.size) (h1 : ∀ v ∈ bs, v.oneCell' = true) (hn : cs.length = n) (hab : a.block ≠ b) (hsrc : ∀ j v, cs[j]? = some v → w.cell? (a.add j) = some v) (h1c : ∀ v ∈ cs, v.oneCell' = true) (hlim : bs.length + n ≤ 140737488355328) :
  Calls Tryz.prog 73 #[.pointer (some ⟨b, 0, none⟩), .slice (some a) n c] w fun e w' => e = .returned (.tuple #[.int .i64 n, .nilIface]) ∧ Lib.IsBuffer 208 5 B b (bs ++ cs) w' ∧ Below B w w' ∧ Lib.OthersKept 5 (some b) w w' := Any.Buffer_Write_any Tryz.laysM180 B b bs cs a n c w h hBw h1 hn hab hsrc h1c hlim
end Go.Proofs
