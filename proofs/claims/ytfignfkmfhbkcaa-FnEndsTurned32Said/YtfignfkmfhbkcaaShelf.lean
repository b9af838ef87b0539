/-
  The library contracts of the kit's shelf at this program's numbers, laid by the kit's own tools. No statement is proved here.
-/
import Derived.Ground.MnProg
import Derived.Shelf.Bin.LEUint16
import Derived.Shelf.Bin.LEPutUint16
import Derived.Shelf.Bin.LEAppendUint16
import Derived.Shelf.Bin.LEUint32
import Derived.Shelf.Bin.LEPutUint32
import Derived.Shelf.Bin.LEAppendUint32
import Derived.Shelf.Bin.LEAppendUint64
import Derived.Shelf.Bin.BEUint16
import Derived.Shelf.Bin.BEPutUint16
import Derived.Shelf.Bin.BEAppendUint16
import Derived.Shelf.Bin.BEUint32
import Derived.Shelf.Bin.BEPutUint32
import Derived.Shelf.Bin.BEAppendUint32
import Derived.Shelf.Bin.BEAppendUint64
import Derived.Shelf.Bin.BEAppendUint32Arg
import Derived.Shelf.Bin.BEAppendUint64Arg
import Derived.Shelf.Bin.BEUint32Panics
import Derived.Shelf.Bin.ReadersZ
import Derived.Ground.SlbCloneProg
import Derived.Shelf.Bytes.SlClone
import Derived.Test.YtfignfkmfhbkcaaProg
namespace Go.Proofs
open Go.Shelf
def Try.laysBin27_ren : Go.Shelf.Ren := ⟨fun | 27 => 41 | n => n, fun | 25 => 41 | 22 => 23 | 23 => 32 | 0 => 0 | 5 => 5 | 45 => 33 | n => n, fun | n => n⟩
theorem Try.laysBin27 : Go.Proofs.LaysBin.n27 Try.prog Try.laysBin27_ren := {
  mixed := by kernel_rfl
  f27 := Try.func41.trans (congrArg some (by kernel_rfl))
  t0 := Try.underlying0
  a0 := Try.isAgg0
  z0 := Try.sizeOf0
  v0 := Try.zeroValue0
  i0 := by kernel_rfl
  t5 := Try.underlying5
  a5 := Try.isAgg5
  z5 := Try.sizeOf5
  v5 := Try.zeroValue5
  i5 := by kernel_rfl
  t22 := Try.underlying23
  a22 := Try.isAgg23
  z22 := Try.sizeOf23
  v22 := Try.zeroValue23
  i22 := by kernel_rfl
  t23 := Try.underlying32
  a23 := Try.isAgg32
  z23 := Try.sizeOf32
  v23 := Try.zeroValue32
  i23 := by kernel_rfl
  t25 := Try.underlying41
  a25 := Try.isAgg41
  z25 := Try.sizeOf41
  v25 := Try.zeroValue41
  i25 := by kernel_rfl
  t45 := Try.underlying33
  a45 := Try.isAgg33
  z45 := Try.sizeOf33
  v45 := Try.zeroValue33
  i45 := by kernel_rfl }
open Go.RowKit in
theorem Try.binary_LE_Uint16 (g o n c : Nat) (b0 b1 : UInt8) (w : World) (hn : 2 ≤ n) (c0 : w.cell? ⟨g, o, none⟩ = some (.int .u8 b0.toNat)) (c1 : w.cell? ⟨g, o + 1, none⟩ = some (.int .u8 b1.toNat)) :
    Calls Try.prog 41 #[.agg #[], .slice (some ⟨g, o, none⟩) n c] w fun e w' => e = .returned (.int .u16 (Lib.leNat [b0, b1])) ∧ Below w.heap.size w w' := Any.binary_LE_Uint16 Try.laysBin27 g o n c b0 b1 w hn c0 c1
def Try.laysBin28_ren : Go.Shelf.Ren := ⟨fun | 28 => 42 | n => n, fun | 25 => 41 | 22 => 23 | 23 => 32 | 0 => 0 | 5 => 5 | 45 => 33 | n => n, fun | n => n⟩
theorem Try.laysBin28 : Go.Proofs.LaysBin.n28 Try.prog Try.laysBin28_ren := {
  mixed := by kernel_rfl
  f28 := Try.func42.trans (congrArg some (by kernel_rfl))
  t0 := Try.underlying0
  a0 := Try.isAgg0
  z0 := Try.sizeOf0
  v0 := Try.zeroValue0
  i0 := by kernel_rfl
  t5 := Try.underlying5
  a5 := Try.isAgg5
  z5 := Try.sizeOf5
  v5 := Try.zeroValue5
  i5 := by kernel_rfl
  t22 := Try.underlying23
  a22 := Try.isAgg23
  z22 := Try.sizeOf23
  v22 := Try.zeroValue23
  i22 := by kernel_rfl
  t23 := Try.underlying32
  a23 := Try.isAgg32
  z23 := Try.sizeOf32
  v23 := Try.zeroValue32
  i23 := by kernel_rfl
  t25 := Try.underlying41
  a25 := Try.isAgg41
  z25 := Try.sizeOf41
  v25 := Try.zeroValue41
  i25 := by kernel_rfl
  t45 := Try.underlying33
  a45 := Try.isAgg33
  z45 := Try.sizeOf33
  v45 := Try.zeroValue33
  i45 := by kernel_rfl }
open Go.RowKit in
theorem Try.binary_LE_PutUint16 (g o n c v : Nat) (hv : v < 65536) (x0 x1 : Value) (w : World) (hn : 2 ≤ n) (c0 : w.cell? ⟨g, o, none⟩ = some x0) (c1 : w.cell? ⟨g, o + 1, none⟩ = some x1) (f0 : w.frozen? ⟨g, o, none⟩ = false) (f1 : w.frozen? ⟨g, o + 1, none⟩ = false) :
    Calls Try.prog 42 #[.agg #[], .slice (some ⟨g, o, none⟩) n c, .int .u16 v] w fun e w' => e = .returned (.tuple #[]) ∧ w' = (w.alloc (.cells #[] 41)).setCells g o (Lib.byteCells (Lib.leBytes 2 v)) := Any.binary_LE_PutUint16 Try.laysBin28 g o n c v hv x0 x1 w hn c0 c1 f0 f1
def Try.laysBin29_ren : Go.Shelf.Ren := ⟨fun | 29 => 38 | n => n, fun | 25 => 41 | 22 => 23 | 23 => 32 | 0 => 0 | 5 => 5 | 45 => 33 | n => n, fun | n => n⟩
theorem Try.laysBin29 : Go.Proofs.LaysBin.n29 Try.prog Try.laysBin29_ren := {
  mixed := by kernel_rfl
  f29 := Try.func38.trans (congrArg some (by kernel_rfl))
  t0 := Try.underlying0
  a0 := Try.isAgg0
  z0 := Try.sizeOf0
  v0 := Try.zeroValue0
  i0 := by kernel_rfl
  t5 := Try.underlying5
  a5 := Try.isAgg5
  z5 := Try.sizeOf5
  v5 := Try.zeroValue5
  i5 := by kernel_rfl
  t22 := Try.underlying23
  a22 := Try.isAgg23
  z22 := Try.sizeOf23
  v22 := Try.zeroValue23
  i22 := by kernel_rfl
  t23 := Try.underlying32
  a23 := Try.isAgg32
  z23 := Try.sizeOf32
  v23 := Try.zeroValue32
  i23 := by kernel_rfl
  t25 := Try.underlying41
  a25 := Try.isAgg41
  z25 := Try.sizeOf41
  v25 := Try.zeroValue41
  i25 := by kernel_rfl
  t45 := Try.underlying33
  a45 := Try.isAgg33
  z45 := Try.sizeOf33
  v45 := Try.zeroValue33
  i45 := by kernel_rfl }
open Go.RowKit in
theorem Try.binary_LE_AppendUint16 (B n v : Nat) (hv : v < 65536) (sv : Value) (xs : List Value) (w : World) (hown : w.ownsRow B 5 1 sv n xs) (hBw : B ≤ w.heap.size) (hlim : n + 2 ≤ 140737488355328) :
    Calls Try.prog 38 #[.agg #[], sv, .int .u16 v] w fun e w' => ∃ v', e = .returned v' ∧ w'.ownsRow B 5 1 v' (n + 2) (xs ++ Lib.byteCells (Lib.leBytes 2 v)) ∧ Below B w w' := Any.binary_LE_AppendUint16 Try.laysBin29 B n v hv sv xs w hown hBw hlim
def Try.laysBin30_ren : Go.Shelf.Ren := ⟨fun | 30 => 35 | n => n, fun | 25 => 41 | 22 => 23 | 29 => 26 | 0 => 0 | 5 => 5 | 45 => 33 | n => n, fun | n => n⟩
theorem Try.laysBin30 : Go.Proofs.LaysBin.n30 Try.prog Try.laysBin30_ren := {
  mixed := by kernel_rfl
  f30 := Try.func35.trans (congrArg some (by kernel_rfl))
  t0 := Try.underlying0
  a0 := Try.isAgg0
  z0 := Try.sizeOf0
  v0 := Try.zeroValue0
  i0 := by kernel_rfl
  t5 := Try.underlying5
  a5 := Try.isAgg5
  z5 := Try.sizeOf5
  v5 := Try.zeroValue5
  i5 := by kernel_rfl
  t22 := Try.underlying23
  a22 := Try.isAgg23
  z22 := Try.sizeOf23
  v22 := Try.zeroValue23
  i22 := by kernel_rfl
  t25 := Try.underlying41
  a25 := Try.isAgg41
  z25 := Try.sizeOf41
  v25 := Try.zeroValue41
  i25 := by kernel_rfl
  t29 := Try.underlying26
  a29 := Try.isAgg26
  z29 := Try.sizeOf26
  v29 := Try.zeroValue26
  i29 := by kernel_rfl
  t45 := Try.underlying33
  a45 := Try.isAgg33
  z45 := Try.sizeOf33
  v45 := Try.zeroValue33
  i45 := by kernel_rfl }
open Go.RowKit in
theorem Try.binary_LE_Uint32 (g o n c : Nat) (b0 b1 b2 b3 : UInt8) (w : World) (hn : 4 ≤ n) (c0 : w.cell? ⟨g, o, none⟩ = some (.int .u8 b0.toNat)) (c1 : w.cell? ⟨g, o + 1, none⟩ = some (.int .u8 b1.toNat)) (c2 : w.cell? ⟨g, o + 2, none⟩ = some (.int .u8 b2.toNat)) (c3 : w.cell? ⟨g, o + 3, none⟩ = some (.int .u8 b3.toNat)) :
    Calls Try.prog 35 #[.agg #[], .slice (some ⟨g, o, none⟩) n c] w fun e w' => e = .returned (.int .u32 (Lib.leNat [b0, b1, b2, b3])) ∧ Below w.heap.size w w' := Any.binary_LE_Uint32 Try.laysBin30 g o n c b0 b1 b2 b3 w hn c0 c1 c2 c3
def Try.laysBin31_ren : Go.Shelf.Ren := ⟨fun | 31 => 45 | n => n, fun | 25 => 41 | 22 => 23 | 29 => 26 | 0 => 0 | 5 => 5 | 45 => 33 | n => n, fun | n => n⟩
theorem Try.laysBin31 : Go.Proofs.LaysBin.n31 Try.prog Try.laysBin31_ren := {
  mixed := by kernel_rfl
  f31 := Try.func45.trans (congrArg some (by kernel_rfl))
  t0 := Try.underlying0
  a0 := Try.isAgg0
  z0 := Try.sizeOf0
  v0 := Try.zeroValue0
  i0 := by kernel_rfl
  t5 := Try.underlying5
  a5 := Try.isAgg5
  z5 := Try.sizeOf5
  v5 := Try.zeroValue5
  i5 := by kernel_rfl
  t22 := Try.underlying23
  a22 := Try.isAgg23
  z22 := Try.sizeOf23
  v22 := Try.zeroValue23
  i22 := by kernel_rfl
  t25 := Try.underlying41
  a25 := Try.isAgg41
  z25 := Try.sizeOf41
  v25 := Try.zeroValue41
  i25 := by kernel_rfl
  t29 := Try.underlying26
  a29 := Try.isAgg26
  z29 := Try.sizeOf26
  v29 := Try.zeroValue26
  i29 := by kernel_rfl
  t45 := Try.underlying33
  a45 := Try.isAgg33
  z45 := Try.sizeOf33
  v45 := Try.zeroValue33
  i45 := by kernel_rfl }
open Go.RowKit in
theorem Try.binary_LE_PutUint32 (g o n c v : Nat) (hv : v < 4294967296) (x0 x1 x2 x3 : Value) (w : World) (hn : 4 ≤ n) (c0 : w.cell? ⟨g, o, none⟩ = some x0) (c1 : w.cell? ⟨g, o + 1, none⟩ = some x1) (c2 : w.cell? ⟨g, o + 2, none⟩ = some x2) (c3 : w.cell? ⟨g, o + 3, none⟩ = some x3) (f0 : w.frozen? ⟨g, o, none⟩ = false) (f1 : w.frozen? ⟨g, o + 1, none⟩ = false) (f2 : w.frozen? ⟨g, o + 2, none⟩ = false) (f3 : w.frozen? ⟨g, o + 3, none⟩ = false) :
    Calls Try.prog 45 #[.agg #[], .slice (some ⟨g, o, none⟩) n c, .int .u32 v] w fun e w' => e = .returned (.tuple #[]) ∧ w' = (w.alloc (.cells #[] 41)).setCells g o (Lib.byteCells (Lib.leBytes 4 v)) := Any.binary_LE_PutUint32 Try.laysBin31 g o n c v hv x0 x1 x2 x3 w hn c0 c1 c2 c3 f0 f1 f2 f3
def Try.laysBin32_ren : Go.Shelf.Ren := ⟨fun | 32 => 34 | n => n, fun | 25 => 41 | 22 => 23 | 29 => 26 | 0 => 0 | 5 => 5 | 45 => 33 | n => n, fun | n => n⟩
theorem Try.laysBin32 : Go.Proofs.LaysBin.n32 Try.prog Try.laysBin32_ren := {
  mixed := by kernel_rfl
  f32 := Try.func34.trans (congrArg some (by kernel_rfl))
  t0 := Try.underlying0
  a0 := Try.isAgg0
  z0 := Try.sizeOf0
  v0 := Try.zeroValue0
  i0 := by kernel_rfl
  t5 := Try.underlying5
  a5 := Try.isAgg5
  z5 := Try.sizeOf5
  v5 := Try.zeroValue5
  i5 := by kernel_rfl
  t22 := Try.underlying23
  a22 := Try.isAgg23
  z22 := Try.sizeOf23
  v22 := Try.zeroValue23
  i22 := by kernel_rfl
  t25 := Try.underlying41
  a25 := Try.isAgg41
  z25 := Try.sizeOf41
  v25 := Try.zeroValue41
  i25 := by kernel_rfl
  t29 := Try.underlying26
  a29 := Try.isAgg26
  z29 := Try.sizeOf26
  v29 := Try.zeroValue26
  i29 := by kernel_rfl
  t45 := Try.underlying33
  a45 := Try.isAgg33
  z45 := Try.sizeOf33
  v45 := Try.zeroValue33
  i45 := by kernel_rfl }
open Go.RowKit in
theorem Try.binary_LE_AppendUint32 (B n v : Nat) (hv : v < 4294967296) (sv : Value) (xs : List Value) (w : World) (hown : w.ownsRow B 5 1 sv n xs) (hBw : B ≤ w.heap.size) (hlim : n + 4 ≤ 140737488355328) :
    Calls Try.prog 34 #[.agg #[], sv, .int .u32 v] w fun e w' => ∃ v', e = .returned v' ∧ w'.ownsRow B 5 1 v' (n + 4) (xs ++ Lib.byteCells (Lib.leBytes 4 v)) ∧ Below B w w' := Any.binary_LE_AppendUint32 Try.laysBin32 B n v hv sv xs w hown hBw hlim
def Try.laysBin35_ren : Go.Shelf.Ren := ⟨fun | 35 => 33 | n => n, fun | 25 => 41 | 22 => 23 | 33 => 22 | 0 => 0 | 5 => 5 | 45 => 33 | n => n, fun | n => n⟩
theorem Try.laysBin35 : Go.Proofs.LaysBin.n35 Try.prog Try.laysBin35_ren := {
  mixed := by kernel_rfl
  f35 := Try.func33.trans (congrArg some (by kernel_rfl))
  t0 := Try.underlying0
  a0 := Try.isAgg0
  z0 := Try.sizeOf0
  v0 := Try.zeroValue0
  i0 := by kernel_rfl
  t5 := Try.underlying5
  a5 := Try.isAgg5
  z5 := Try.sizeOf5
  v5 := Try.zeroValue5
  i5 := by kernel_rfl
  t22 := Try.underlying23
  a22 := Try.isAgg23
  z22 := Try.sizeOf23
  v22 := Try.zeroValue23
  i22 := by kernel_rfl
  t25 := Try.underlying41
  a25 := Try.isAgg41
  z25 := Try.sizeOf41
  v25 := Try.zeroValue41
  i25 := by kernel_rfl
  t33 := Try.underlying22
  a33 := Try.isAgg22
  z33 := Try.sizeOf22
  v33 := Try.zeroValue22
  i33 := by kernel_rfl
  t45 := Try.underlying33
  a45 := Try.isAgg33
  z45 := Try.sizeOf33
  v45 := Try.zeroValue33
  i45 := by kernel_rfl }
open Go.RowKit in
theorem Try.binary_LE_AppendUint64 (B n v : Nat) (hv : v < 18446744073709551616) (sv : Value) (xs : List Value) (w : World) (hown : w.ownsRow B 5 1 sv n xs) (hBw : B ≤ w.heap.size) (hlim : n + 8 ≤ 140737488355328) :
    Calls Try.prog 33 #[.agg #[], sv, .int .u64 v] w fun e w' => ∃ v', e = .returned v' ∧ w'.ownsRow B 5 1 v' (n + 8) (xs ++ Lib.byteCells (Lib.leBytes 8 v)) ∧ Below B w w' := Any.binary_LE_AppendUint64 Try.laysBin35 B n v hv sv xs w hown hBw hlim
def Try.laysBin36_ren : Go.Shelf.Ren := ⟨fun | 36 => 39 | n => n, fun | 37 => 40 | 22 => 23 | 23 => 32 | 0 => 0 | 5 => 5 | 45 => 33 | n => n, fun | n => n⟩
theorem Try.laysBin36 : Go.Proofs.LaysBin.n36 Try.prog Try.laysBin36_ren := {
  mixed := by kernel_rfl
  f36 := Try.func39.trans (congrArg some (by kernel_rfl))
  t0 := Try.underlying0
  a0 := Try.isAgg0
  z0 := Try.sizeOf0
  v0 := Try.zeroValue0
  i0 := by kernel_rfl
  t5 := Try.underlying5
  a5 := Try.isAgg5
  z5 := Try.sizeOf5
  v5 := Try.zeroValue5
  i5 := by kernel_rfl
  t22 := Try.underlying23
  a22 := Try.isAgg23
  z22 := Try.sizeOf23
  v22 := Try.zeroValue23
  i22 := by kernel_rfl
  t23 := Try.underlying32
  a23 := Try.isAgg32
  z23 := Try.sizeOf32
  v23 := Try.zeroValue32
  i23 := by kernel_rfl
  t37 := Try.underlying40
  a37 := Try.isAgg40
  z37 := Try.sizeOf40
  v37 := Try.zeroValue40
  i37 := by kernel_rfl
  t45 := Try.underlying33
  a45 := Try.isAgg33
  z45 := Try.sizeOf33
  v45 := Try.zeroValue33
  i45 := by kernel_rfl }
open Go.RowKit in
theorem Try.binary_BE_Uint16 (g o n c : Nat) (b0 b1 : UInt8) (w : World) (hn : 2 ≤ n) (c0 : w.cell? ⟨g, o, none⟩ = some (.int .u8 b0.toNat)) (c1 : w.cell? ⟨g, o + 1, none⟩ = some (.int .u8 b1.toNat)) :
    Calls Try.prog 39 #[.agg #[], .slice (some ⟨g, o, none⟩) n c] w fun e w' => e = .returned (.int .u16 (Lib.beNat [b0, b1])) ∧ Below w.heap.size w w' := Any.binary_BE_Uint16 Try.laysBin36 g o n c b0 b1 w hn c0 c1
def Try.laysBin37_ren : Go.Shelf.Ren := ⟨fun | 37 => 40 | n => n, fun | 37 => 40 | 22 => 23 | 23 => 32 | 0 => 0 | 5 => 5 | 45 => 33 | n => n, fun | n => n⟩
theorem Try.laysBin37 : Go.Proofs.LaysBin.n37 Try.prog Try.laysBin37_ren := {
  mixed := by kernel_rfl
  f37 := Try.func40.trans (congrArg some (by kernel_rfl))
  t0 := Try.underlying0
  a0 := Try.isAgg0
  z0 := Try.sizeOf0
  v0 := Try.zeroValue0
  i0 := by kernel_rfl
  t5 := Try.underlying5
  a5 := Try.isAgg5
  z5 := Try.sizeOf5
  v5 := Try.zeroValue5
  i5 := by kernel_rfl
  t22 := Try.underlying23
  a22 := Try.isAgg23
  z22 := Try.sizeOf23
  v22 := Try.zeroValue23
  i22 := by kernel_rfl
  t23 := Try.underlying32
  a23 := Try.isAgg32
  z23 := Try.sizeOf32
  v23 := Try.zeroValue32
  i23 := by kernel_rfl
  t37 := Try.underlying40
  a37 := Try.isAgg40
  z37 := Try.sizeOf40
  v37 := Try.zeroValue40
  i37 := by kernel_rfl
  t45 := Try.underlying33
  a45 := Try.isAgg33
  z45 := Try.sizeOf33
  v45 := Try.zeroValue33
  i45 := by kernel_rfl }
open Go.RowKit in
theorem Try.binary_BE_PutUint16 (g o n c v : Nat) (hv : v < 65536) (x0 x1 : Value) (w : World) (hn : 2 ≤ n) (c0 : w.cell? ⟨g, o, none⟩ = some x0) (c1 : w.cell? ⟨g, o + 1, none⟩ = some x1) (f0 : w.frozen? ⟨g, o, none⟩ = false) (f1 : w.frozen? ⟨g, o + 1, none⟩ = false) :
    Calls Try.prog 40 #[.agg #[], .slice (some ⟨g, o, none⟩) n c, .int .u16 v] w fun e w' => e = .returned (.tuple #[]) ∧ w' = (w.alloc (.cells #[] 40)).setCells g o (Lib.byteCells (Lib.beBytes 2 v)) := Any.binary_BE_PutUint16 Try.laysBin37 g o n c v hv x0 x1 w hn c0 c1 f0 f1
def Try.laysBin38_ren : Go.Shelf.Ren := ⟨fun | 38 => 36 | n => n, fun | 37 => 40 | 22 => 23 | 23 => 32 | 0 => 0 | 45 => 33 | 5 => 5 | n => n, fun | n => n⟩
theorem Try.laysBin38 : Go.Proofs.LaysBin.n38 Try.prog Try.laysBin38_ren := {
  mixed := by kernel_rfl
  f38 := Try.func36.trans (congrArg some (by kernel_rfl))
  t0 := Try.underlying0
  a0 := Try.isAgg0
  z0 := Try.sizeOf0
  v0 := Try.zeroValue0
  i0 := by kernel_rfl
  t5 := Try.underlying5
  a5 := Try.isAgg5
  z5 := Try.sizeOf5
  v5 := Try.zeroValue5
  i5 := by kernel_rfl
  t22 := Try.underlying23
  a22 := Try.isAgg23
  z22 := Try.sizeOf23
  v22 := Try.zeroValue23
  i22 := by kernel_rfl
  t23 := Try.underlying32
  a23 := Try.isAgg32
  z23 := Try.sizeOf32
  v23 := Try.zeroValue32
  i23 := by kernel_rfl
  t37 := Try.underlying40
  a37 := Try.isAgg40
  z37 := Try.sizeOf40
  v37 := Try.zeroValue40
  i37 := by kernel_rfl
  t45 := Try.underlying33
  a45 := Try.isAgg33
  z45 := Try.sizeOf33
  v45 := Try.zeroValue33
  i45 := by kernel_rfl }
open Go.RowKit in
theorem Try.binary_BE_AppendUint16 (B n v : Nat) (hv : v < 65536) (sv : Value) (xs : List Value) (w : World) (hown : w.ownsRow B 5 1 sv n xs) (hBw : B ≤ w.heap.size) (hlim : n + 2 ≤ 140737488355328) :
    Calls Try.prog 36 #[.agg #[], sv, .int .u16 v] w fun e w' => ∃ v', e = .returned v' ∧ w'.ownsRow B 5 1 v' (n + 2) (xs ++ Lib.byteCells (Lib.beBytes 2 v)) ∧ Below B w w' := Any.binary_BE_AppendUint16 Try.laysBin38 B n v hv sv xs w hown hBw hlim
def Try.laysBin39_ren : Go.Shelf.Ren := ⟨fun | 39 => 43 | n => n, fun | 37 => 40 | 22 => 23 | 29 => 26 | 0 => 0 | 5 => 5 | 45 => 33 | n => n, fun | n => n⟩
theorem Try.laysBin39 : Go.Proofs.LaysBin.n39 Try.prog Try.laysBin39_ren := {
  mixed := by kernel_rfl
  f39 := Try.func43.trans (congrArg some (by kernel_rfl))
  t0 := Try.underlying0
  a0 := Try.isAgg0
  z0 := Try.sizeOf0
  v0 := Try.zeroValue0
  i0 := by kernel_rfl
  t5 := Try.underlying5
  a5 := Try.isAgg5
  z5 := Try.sizeOf5
  v5 := Try.zeroValue5
  i5 := by kernel_rfl
  t22 := Try.underlying23
  a22 := Try.isAgg23
  z22 := Try.sizeOf23
  v22 := Try.zeroValue23
  i22 := by kernel_rfl
  t29 := Try.underlying26
  a29 := Try.isAgg26
  z29 := Try.sizeOf26
  v29 := Try.zeroValue26
  i29 := by kernel_rfl
  t37 := Try.underlying40
  a37 := Try.isAgg40
  z37 := Try.sizeOf40
  v37 := Try.zeroValue40
  i37 := by kernel_rfl
  t45 := Try.underlying33
  a45 := Try.isAgg33
  z45 := Try.sizeOf33
  v45 := Try.zeroValue33
  i45 := by kernel_rfl }
open Go.RowKit in
theorem Try.binary_BE_Uint32 (g o n c : Nat) (b0 b1 b2 b3 : UInt8) (w : World) (hn : 4 ≤ n) (c0 : w.cell? ⟨g, o, none⟩ = some (.int .u8 b0.toNat)) (c1 : w.cell? ⟨g, o + 1, none⟩ = some (.int .u8 b1.toNat)) (c2 : w.cell? ⟨g, o + 2, none⟩ = some (.int .u8 b2.toNat)) (c3 : w.cell? ⟨g, o + 3, none⟩ = some (.int .u8 b3.toNat)) :
    Calls Try.prog 43 #[.agg #[], .slice (some ⟨g, o, none⟩) n c] w fun e w' => e = .returned (.int .u32 (Lib.beNat [b0, b1, b2, b3])) ∧ Below w.heap.size w w' := Any.binary_BE_Uint32 Try.laysBin39 g o n c b0 b1 b2 b3 w hn c0 c1 c2 c3
def Try.laysBin40_ren : Go.Shelf.Ren := ⟨fun | 40 => 44 | n => n, fun | 37 => 40 | 22 => 23 | 29 => 26 | 0 => 0 | 5 => 5 | 45 => 33 | n => n, fun | n => n⟩
theorem Try.laysBin40 : Go.Proofs.LaysBin.n40 Try.prog Try.laysBin40_ren := {
  mixed := by kernel_rfl
  f40 := Try.func44.trans (congrArg some (by kernel_rfl))
  t0 := Try.underlying0
  a0 := Try.isAgg0
  z0 := Try.sizeOf0
  v0 := Try.zeroValue0
  i0 := by kernel_rfl
  t5 := Try.underlying5
  a5 := Try.isAgg5
  z5 := Try.sizeOf5
  v5 := Try.zeroValue5
  i5 := by kernel_rfl
  t22 := Try.underlying23
  a22 := Try.isAgg23
  z22 := Try.sizeOf23
  v22 := Try.zeroValue23
  i22 := by kernel_rfl
  t29 := Try.underlying26
  a29 := Try.isAgg26
  z29 := Try.sizeOf26
  v29 := Try.zeroValue26
  i29 := by kernel_rfl
  t37 := Try.underlying40
  a37 := Try.isAgg40
  z37 := Try.sizeOf40
  v37 := Try.zeroValue40
  i37 := by kernel_rfl
  t45 := Try.underlying33
  a45 := Try.isAgg33
  z45 := Try.sizeOf33
  v45 := Try.zeroValue33
  i45 := by kernel_rfl }
open Go.RowKit in
theorem Try.binary_BE_PutUint32 (g o n c v : Nat) (hv : v < 4294967296) (x0 x1 x2 x3 : Value) (w : World) (hn : 4 ≤ n) (c0 : w.cell? ⟨g, o, none⟩ = some x0) (c1 : w.cell? ⟨g, o + 1, none⟩ = some x1) (c2 : w.cell? ⟨g, o + 2, none⟩ = some x2) (c3 : w.cell? ⟨g, o + 3, none⟩ = some x3) (f0 : w.frozen? ⟨g, o, none⟩ = false) (f1 : w.frozen? ⟨g, o + 1, none⟩ = false) (f2 : w.frozen? ⟨g, o + 2, none⟩ = false) (f3 : w.frozen? ⟨g, o + 3, none⟩ = false) :
    Calls Try.prog 44 #[.agg #[], .slice (some ⟨g, o, none⟩) n c, .int .u32 v] w fun e w' => e = .returned (.tuple #[]) ∧ w' = (w.alloc (.cells #[] 40)).setCells g o (Lib.byteCells (Lib.beBytes 4 v)) := Any.binary_BE_PutUint32 Try.laysBin40 g o n c v hv x0 x1 x2 x3 w hn c0 c1 c2 c3 f0 f1 f2 f3
def Try.laysBin41_ren : Go.Shelf.Ren := ⟨fun | 41 => 37 | n => n, fun | 37 => 40 | 22 => 23 | 29 => 26 | 0 => 0 | 45 => 33 | 5 => 5 | n => n, fun | n => n⟩
theorem Try.laysBin41 : Go.Proofs.LaysBin.n41 Try.prog Try.laysBin41_ren := {
  mixed := by kernel_rfl
  f41 := Try.func37.trans (congrArg some (by kernel_rfl))
  t0 := Try.underlying0
  a0 := Try.isAgg0
  z0 := Try.sizeOf0
  v0 := Try.zeroValue0
  i0 := by kernel_rfl
  t5 := Try.underlying5
  a5 := Try.isAgg5
  z5 := Try.sizeOf5
  v5 := Try.zeroValue5
  i5 := by kernel_rfl
  t22 := Try.underlying23
  a22 := Try.isAgg23
  z22 := Try.sizeOf23
  v22 := Try.zeroValue23
  i22 := by kernel_rfl
  t29 := Try.underlying26
  a29 := Try.isAgg26
  z29 := Try.sizeOf26
  v29 := Try.zeroValue26
  i29 := by kernel_rfl
  t37 := Try.underlying40
  a37 := Try.isAgg40
  z37 := Try.sizeOf40
  v37 := Try.zeroValue40
  i37 := by kernel_rfl
  t45 := Try.underlying33
  a45 := Try.isAgg33
  z45 := Try.sizeOf33
  v45 := Try.zeroValue33
  i45 := by kernel_rfl }
open Go.RowKit in
theorem Try.binary_BE_AppendUint32 (B n v : Nat) (hv : v < 4294967296) (sv : Value) (xs : List Value) (w : World) (hown : w.ownsRow B 5 1 sv n xs) (hBw : B ≤ w.heap.size) (hlim : n + 4 ≤ 140737488355328) :
    Calls Try.prog 37 #[.agg #[], sv, .int .u32 v] w fun e w' => ∃ v', e = .returned v' ∧ w'.ownsRow B 5 1 v' (n + 4) (xs ++ Lib.byteCells (Lib.beBytes 4 v)) ∧ Below B w w' := Any.binary_BE_AppendUint32 Try.laysBin41 B n v hv sv xs w hown hBw hlim
def Try.laysBin44_ren : Go.Shelf.Ren := ⟨fun | 44 => 31 | n => n, fun | 37 => 40 | 22 => 23 | 33 => 22 | 0 => 0 | 45 => 33 | 5 => 5 | n => n, fun | n => n⟩
theorem Try.laysBin44 : Go.Proofs.LaysBin.n44 Try.prog Try.laysBin44_ren := {
  mixed := by kernel_rfl
  f44 := Try.func31.trans (congrArg some (by kernel_rfl))
  t0 := Try.underlying0
  a0 := Try.isAgg0
  z0 := Try.sizeOf0
  v0 := Try.zeroValue0
  i0 := by kernel_rfl
  t5 := Try.underlying5
  a5 := Try.isAgg5
  z5 := Try.sizeOf5
  v5 := Try.zeroValue5
  i5 := by kernel_rfl
  t22 := Try.underlying23
  a22 := Try.isAgg23
  z22 := Try.sizeOf23
  v22 := Try.zeroValue23
  i22 := by kernel_rfl
  t33 := Try.underlying22
  a33 := Try.isAgg22
  z33 := Try.sizeOf22
  v33 := Try.zeroValue22
  i33 := by kernel_rfl
  t37 := Try.underlying40
  a37 := Try.isAgg40
  z37 := Try.sizeOf40
  v37 := Try.zeroValue40
  i37 := by kernel_rfl
  t45 := Try.underlying33
  a45 := Try.isAgg33
  z45 := Try.sizeOf33
  v45 := Try.zeroValue33
  i45 := by kernel_rfl }
open Go.RowKit in
theorem Try.binary_BE_AppendUint64 (B n v : Nat) (hv : v < 18446744073709551616) (sv : Value) (xs : List Value) (w : World) (hown : w.ownsRow B 5 1 sv n xs) (hBw : B ≤ w.heap.size) (hlim : n + 8 ≤ 140737488355328) :
    Calls Try.prog 31 #[.agg #[], sv, .int .u64 v] w fun e w' => ∃ v', e = .returned v' ∧ w'.ownsRow B 5 1 v' (n + 8) (xs ++ Lib.byteCells (Lib.beBytes 8 v)) ∧ Below B w w' := Any.binary_BE_AppendUint64 Try.laysBin44 B n v hv sv xs w hown hBw hlim
open Go.RowKit in
theorem Try.binary_BE_AppendUint32_arg (g o n cap v : Nat) (hv : v < 4294967296) (olds : List Value) (w : World) (hlo : olds.length = n) (holds : ∀ j u, olds[j]? = some u → w.cell? ⟨g, o + j, none⟩ = some u) (hspare : n + 4 ≤ cap → ∀ j, j < 4 → (w.cell? ⟨g, o + n + j, none⟩).isSome = true ∧ w.frozen? ⟨g, o + n + j, none⟩ = false) (hlim : n + 4 ≤ 140737488355328) :
    Calls Try.prog 37 #[.agg #[], .slice (some ⟨g, o, none⟩) n cap, .int .u32 v] w fun e w' =>
      (n + 4 ≤ cap ∧ e = .returned (.slice (some ⟨g, o, none⟩) (n + 4) cap) ∧ w' = ((w.alloc (.cells #[] 40)).alloc (.cells (Lib.byteCells (Lib.beBytes 4 v)).toArray 5)).setCells g (o + n) (Lib.byteCells (Lib.beBytes 4 v))) ∨
      (cap < n + 4 ∧ ∃ v', e = .returned v' ∧ w'.ownsRow (w.heap.size + 2) 5 1 v' (n + 4) (olds ++ Lib.byteCells (Lib.beBytes 4 v)) ∧ Below w.heap.size w w') := Any.binary_BE_AppendUint32_arg Try.laysBin41 g o n cap v hv olds w hlo holds hspare hlim
open Go.RowKit in
theorem Try.binary_BE_AppendUint64_arg (g o n cap v : Nat) (hv : v < 18446744073709551616) (olds : List Value) (w : World) (hlo : olds.length = n) (holds : ∀ j u, olds[j]? = some u → w.cell? ⟨g, o + j, none⟩ = some u) (hspare : n + 8 ≤ cap → ∀ j, j < 8 → (w.cell? ⟨g, o + n + j, none⟩).isSome = true ∧ w.frozen? ⟨g, o + n + j, none⟩ = false) (hlim : n + 8 ≤ 140737488355328) :
    Calls Try.prog 31 #[.agg #[], .slice (some ⟨g, o, none⟩) n cap, .int .u64 v] w fun e w' =>
      (n + 8 ≤ cap ∧ e = .returned (.slice (some ⟨g, o, none⟩) (n + 8) cap) ∧ w' = ((w.alloc (.cells #[] 40)).alloc (.cells (Lib.byteCells (Lib.beBytes 8 v)).toArray 5)).setCells g (o + n) (Lib.byteCells (Lib.beBytes 8 v))) ∨
      (cap < n + 8 ∧ ∃ v', e = .returned v' ∧ w'.ownsRow (w.heap.size + 2) 5 1 v' (n + 8) (olds ++ Lib.byteCells (Lib.beBytes 8 v)) ∧ Below w.heap.size w w') := Any.binary_BE_AppendUint64_arg Try.laysBin44 g o n cap v hv olds w hlo holds hspare hlim
open Go.RowKit in
theorem Try.binary_BE_Uint32_panics (ao : Option Addr) (n c : Nat) (w : World) (hn : n < 4) (hnil : ao = none → n = 0) :
    Calls Try.prog 43 #[.agg #[], .slice ao n c] w fun e w' => Lib.boundsPanicked Try.prog 3 n e ∧ w' = (w.alloc (.cells #[] 40)).drew := Any.binary_BE_Uint32_panics Try.laysBin39 ao n c w hn hnil
open Go.RowKit in
theorem Try.binary_LE_Uint16_z (a : Addr) (n c : Nat) (zs : List Int) (w : World) (hn : 2 ≤ n) (hl : 2 ≤ zs.length) (hcell : ∀ i, i < zs.length → w.cell? (a.add i) = some (.int .u8 (zs.getD i 0))) (hw : ∀ z ∈ zs, (Lit.int .u8 z).wf = true) :
    Calls Try.prog 41 #[.agg #[], .slice (some a) n c] w fun e w' => e = .returned (.int .u16 (Lib.leZ (zs.take 2))) ∧ Below w.heap.size w w' := Any.binary_LE_Uint16_z Try.laysBin27 a n c zs w hn hl hcell hw
open Go.RowKit in
theorem Try.binary_LE_Uint32_z (a : Addr) (n c : Nat) (zs : List Int) (w : World) (hn : 4 ≤ n) (hl : 4 ≤ zs.length) (hcell : ∀ i, i < zs.length → w.cell? (a.add i) = some (.int .u8 (zs.getD i 0))) (hw : ∀ z ∈ zs, (Lit.int .u8 z).wf = true) :
    Calls Try.prog 35 #[.agg #[], .slice (some a) n c] w fun e w' => e = .returned (.int .u32 (Lib.leZ (zs.take 4))) ∧ Below w.heap.size w w' := Any.binary_LE_Uint32_z Try.laysBin30 a n c zs w hn hl hcell hw
open Go.RowKit in
theorem Try.binary_BE_Uint16_z (a : Addr) (n c : Nat) (zs : List Int) (w : World) (hn : 2 ≤ n) (hl : 2 ≤ zs.length) (hcell : ∀ i, i < zs.length → w.cell? (a.add i) = some (.int .u8 (zs.getD i 0))) (hw : ∀ z ∈ zs, (Lit.int .u8 z).wf = true) :
    Calls Try.prog 39 #[.agg #[], .slice (some a) n c] w fun e w' => e = .returned (.int .u16 (Lib.beZ (zs.take 2))) ∧ Below w.heap.size w w' := Any.binary_BE_Uint16_z Try.laysBin36 a n c zs w hn hl hcell hw
open Go.RowKit in
theorem Try.binary_BE_Uint32_z (a : Addr) (n c : Nat) (zs : List Int) (w : World) (hn : 4 ≤ n) (hl : 4 ≤ zs.length) (hcell : ∀ i, i < zs.length → w.cell? (a.add i) = some (.int .u8 (zs.getD i 0))) (hw : ∀ z ∈ zs, (Lit.int .u8 z).wf = true) :
    Calls Try.prog 43 #[.agg #[], .slice (some a) n c] w fun e w' => e = .returned (.int .u32 (Lib.beZ (zs.take 4))) ∧ Below w.heap.size w w' := Any.binary_BE_Uint32_z Try.laysBin39 a n c zs w hn hl hcell hw
def Try.laysSlK4_ren : Go.Shelf.Ren := ⟨fun | 4 => 32 | n => n, fun | 22 => 23 | 4 => 4 | 5 => 5 | n => n, fun | n => n⟩
theorem Try.laysSlK4 : Go.Proofs.SlLaysK.n4 Try.prog Try.laysSlK4_ren := {
  mixed := by kernel_rfl
  f4 := Try.func32.trans (congrArg some (by kernel_rfl))
  t4 := Try.underlying4
  a4 := Try.isAgg4
  z4 := Try.sizeOf4
  v4 := Try.zeroValue4
  t22 := Try.underlying23
  a22 := Try.isAgg23
  z22 := Try.sizeOf23
  v22 := Try.zeroValue23
  t5 := Try.underlying5
  i5 := by kernel_rfl }
open Go.RowKit Go.Lib in
theorem Try.bytes_Clone_at (a : Addr) (n c : Nat) (xs : List Int) (w : World) (hx : xs.length = n) (hbig : n ≤ 140737488355328) (hc : ∀ i, i < n → w.cell? (a.add i) = some (.int .u8 (xs.getD i 0))) :
    Calls Try.prog 32 #[.slice (some a) n c] w fun e w' => ∃ v', e = .returned v' ∧ w'.ownsRow w.heap.size 5 1 v' n (xs.map (Value.int .u8)) ∧ v' ≠ .slice none 0 0 ∧ Below w.heap.size w w' := Any.bytes_Clone_at Try.laysSlK4 a n c xs w hx hbig hc
open Go.RowKit Go.Lib in
theorem Try.bytes_Clone_nil (n c : Nat) (w : World) :
    Calls Try.prog 32 #[.slice none n c] w fun e w' => e = .returned (.slice none 0 0) ∧ w' = w := Any.bytes_Clone_nil Try.laysSlK4 n c w
end Go.Proofs
