/-
  The library contracts of the kit's shelf at this program's numbers, laid by the kit's own tools. No statement is proved here.
-/
import Derived.Ground.MnProg
import Derived.Shelf.Bin.LEAppendUint32
import Derived.Shelf.Bin.LEUint64
import Derived.Shelf.Bin.LEPutUint64
import Derived.Shelf.Bin.LEAppendUint64
import Derived.Shelf.Bin.BEAppendUint32
import Derived.Shelf.Bin.BEUint64
import Derived.Shelf.Bin.BEPutUint64
import Derived.Shelf.Bin.BEAppendUint64
import Derived.Shelf.Bin.BEAppendUint32Arg
import Derived.Shelf.Bin.BEAppendUint64Arg
import Derived.Shelf.Bin.BEUint64Panics
import Derived.Shelf.Bin.ReadersZ
import Derived.Ground.SlbCloneProg
import Derived.Shelf.Bytes.SlClone
import Derived.Test.YtjonhbanbeleoaaProg
namespace Go.Proofs
open Go.Shelf
def Try.laysBin32_ren : Go.Shelf.Ren := ⟨fun | 32 => 34 | n => n, fun | 25 => 37 | 22 => 22 | 29 => 33 | 0 => 0 | 5 => 5 | 45 => 34 | n => n, fun | n => n⟩
theorem Try.laysBin32 : Go.Proofs.LaysBin.n32 Try.prog Try.laysBin32_ren := {
  mixed := by kernel_rfl
  f32 := Try.func34.trans (congrArg some (by kernel_rfl))
  t0 := Try.underlying0
  a0 := Try.isAgg0
  z0 := Try.sizeOf0
  v0 := Try.zeroValue0
  i0 := by kernel_rfl
  t5 := Try.underlying5
  a5 := Try.isAgg5
  z5 := Try.sizeOf5
  v5 := Try.zeroValue5
  i5 := by kernel_rfl
  t22 := Try.underlying22
  a22 := Try.isAgg22
  z22 := Try.sizeOf22
  v22 := Try.zeroValue22
  i22 := by kernel_rfl
  t25 := Try.underlying37
  a25 := Try.isAgg37
  z25 := Try.sizeOf37
  v25 := Try.zeroValue37
  i25 := by kernel_rfl
  t29 := Try.underlying33
  a29 := Try.isAgg33
  z29 := Try.sizeOf33
  v29 := Try.zeroValue33
  i29 := by kernel_rfl
  t45 := Try.underlying34
  a45 := Try.isAgg34
  z45 := Try.sizeOf34
  v45 := Try.zeroValue34
  i45 := by kernel_rfl }
open Go.RowKit in
theorem Try.binary_LE_AppendUint32 (B n v : Nat) (hv : v < 4294967296) (sv : Value) (xs : List Value) (w : World) (hown : w.ownsRow B 5 1 sv n xs) (hBw : B ≤ w.heap.size) (hlim : n + 4 ≤ 140737488355328) :
    Calls Try.prog 34 #[.agg #[], sv, .int .u32 v] w fun e w' => ∃ v', e = .returned v' ∧ w'.ownsRow B 5 1 v' (n + 4) (xs ++ Lib.byteCells (Lib.leBytes 4 v)) ∧ Below B w w' := Any.binary_LE_AppendUint32 Try.laysBin32 B n v hv sv xs w hown hBw hlim
def Try.laysBin33_ren : Go.Shelf.Ren := ⟨fun | 33 => 32 | n => n, fun | 25 => 37 | 22 => 22 | 33 => 23 | 0 => 0 | 5 => 5 | 45 => 34 | n => n, fun | n => n⟩
theorem Try.laysBin33 : Go.Proofs.LaysBin.n33 Try.prog Try.laysBin33_ren := {
  mixed := by kernel_rfl
  f33 := Try.func32.trans (congrArg some (by kernel_rfl))
  t0 := Try.underlying0
  a0 := Try.isAgg0
  z0 := Try.sizeOf0
  v0 := Try.zeroValue0
  i0 := by kernel_rfl
  t5 := Try.underlying5
  a5 := Try.isAgg5
  z5 := Try.sizeOf5
  v5 := Try.zeroValue5
  i5 := by kernel_rfl
  t22 := Try.underlying22
  a22 := Try.isAgg22
  z22 := Try.sizeOf22
  v22 := Try.zeroValue22
  i22 := by kernel_rfl
  t25 := Try.underlying37
  a25 := Try.isAgg37
  z25 := Try.sizeOf37
  v25 := Try.zeroValue37
  i25 := by kernel_rfl
  t33 := Try.underlying23
  a33 := Try.isAgg23
  z33 := Try.sizeOf23
  v33 := Try.zeroValue23
  i33 := by kernel_rfl
  t45 := Try.underlying34
  a45 := Try.isAgg34
  z45 := Try.sizeOf34
  v45 := Try.zeroValue34
  i45 := by kernel_rfl }
open Go.RowKit in
theorem Try.binary_LE_Uint64 (g o n c : Nat) (b0 b1 b2 b3 b4 b5 b6 b7 : UInt8) (w : World) (hn : 8 ≤ n) (c0 : w.cell? ⟨g, o, none⟩ = some (.int .u8 b0.toNat)) (c1 : w.cell? ⟨g, o + 1, none⟩ = some (.int .u8 b1.toNat)) (c2 : w.cell? ⟨g, o + 2, none⟩ = some (.int .u8 b2.toNat)) (c3 : w.cell? ⟨g, o + 3, none⟩ = some (.int .u8 b3.toNat)) (c4 : w.cell? ⟨g, o + 4, none⟩ = some (.int .u8 b4.toNat)) (c5 : w.cell? ⟨g, o + 5, none⟩ = some (.int .u8 b5.toNat)) (c6 : w.cell? ⟨g, o + 6, none⟩ = some (.int .u8 b6.toNat)) (c7 : w.cell? ⟨g, o + 7, none⟩ = some (.int .u8 b7.toNat)) :
    Calls Try.prog 32 #[.agg #[], .slice (some ⟨g, o, none⟩) n c] w fun e w' => e = .returned (.int .u64 (Lib.leNat [b0, b1, b2, b3, b4, b5, b6, b7])) ∧ Below w.heap.size w w' := Any.binary_LE_Uint64 Try.laysBin33 g o n c b0 b1 b2 b3 b4 b5 b6 b7 w hn c0 c1 c2 c3 c4 c5 c6 c7
def Try.laysBin34_ren : Go.Shelf.Ren := ⟨fun | 34 => 30 | n => n, fun | 25 => 37 | 22 => 22 | 33 => 23 | 0 => 0 | 5 => 5 | 45 => 34 | n => n, fun | n => n⟩
theorem Try.laysBin34 : Go.Proofs.LaysBin.n34 Try.prog Try.laysBin34_ren := {
  mixed := by kernel_rfl
  f34 := Try.func30.trans (congrArg some (by kernel_rfl))
  t0 := Try.underlying0
  a0 := Try.isAgg0
  z0 := Try.sizeOf0
  v0 := Try.zeroValue0
  i0 := by kernel_rfl
  t5 := Try.underlying5
  a5 := Try.isAgg5
  z5 := Try.sizeOf5
  v5 := Try.zeroValue5
  i5 := by kernel_rfl
  t22 := Try.underlying22
  a22 := Try.isAgg22
  z22 := Try.sizeOf22
  v22 := Try.zeroValue22
  i22 := by kernel_rfl
  t25 := Try.underlying37
  a25 := Try.isAgg37
  z25 := Try.sizeOf37
  v25 := Try.zeroValue37
  i25 := by kernel_rfl
  t33 := Try.underlying23
  a33 := Try.isAgg23
  z33 := Try.sizeOf23
  v33 := Try.zeroValue23
  i33 := by kernel_rfl
  t45 := Try.underlying34
  a45 := Try.isAgg34
  z45 := Try.sizeOf34
  v45 := Try.zeroValue34
  i45 := by kernel_rfl }
open Go.RowKit in
theorem Try.binary_LE_PutUint64 (g o n c v : Nat) (hv : v < 18446744073709551616) (x0 x1 x2 x3 x4 x5 x6 x7 : Value) (w : World) (hn : 8 ≤ n) (c0 : w.cell? ⟨g, o, none⟩ = some x0) (c1 : w.cell? ⟨g, o + 1, none⟩ = some x1) (c2 : w.cell? ⟨g, o + 2, none⟩ = some x2) (c3 : w.cell? ⟨g, o + 3, none⟩ = some x3) (c4 : w.cell? ⟨g, o + 4, none⟩ = some x4) (c5 : w.cell? ⟨g, o + 5, none⟩ = some x5) (c6 : w.cell? ⟨g, o + 6, none⟩ = some x6) (c7 : w.cell? ⟨g, o + 7, none⟩ = some x7) (f0 : w.frozen? ⟨g, o, none⟩ = false) (f1 : w.frozen? ⟨g, o + 1, none⟩ = false) (f2 : w.frozen? ⟨g, o + 2, none⟩ = false) (f3 : w.frozen? ⟨g, o + 3, none⟩ = false) (f4 : w.frozen? ⟨g, o + 4, none⟩ = false) (f5 : w.frozen? ⟨g, o + 5, none⟩ = false) (f6 : w.frozen? ⟨g, o + 6, none⟩ = false) (f7 : w.frozen? ⟨g, o + 7, none⟩ = false) :
    Calls Try.prog 30 #[.agg #[], .slice (some ⟨g, o, none⟩) n c, .int .u64 v] w fun e w' => e = .returned (.tuple #[]) ∧ w' = (w.alloc (.cells #[] 37)).setCells g o (Lib.byteCells (Lib.leBytes 8 v)) := Any.binary_LE_PutUint64 Try.laysBin34 g o n c v hv x0 x1 x2 x3 x4 x5 x6 x7 w hn c0 c1 c2 c3 c4 c5 c6 c7 f0 f1 f2 f3 f4 f5 f6 f7
def Try.laysBin35_ren : Go.Shelf.Ren := ⟨fun | 35 => 28 | n => n, fun | 25 => 37 | 22 => 22 | 33 => 23 | 0 => 0 | 5 => 5 | 45 => 34 | n => n, fun | n => n⟩
theorem Try.laysBin35 : Go.Proofs.LaysBin.n35 Try.prog Try.laysBin35_ren := {
  mixed := by kernel_rfl
  f35 := Try.func28.trans (congrArg some (by kernel_rfl))
  t0 := Try.underlying0
  a0 := Try.isAgg0
  z0 := Try.sizeOf0
  v0 := Try.zeroValue0
  i0 := by kernel_rfl
  t5 := Try.underlying5
  a5 := Try.isAgg5
  z5 := Try.sizeOf5
  v5 := Try.zeroValue5
  i5 := by kernel_rfl
  t22 := Try.underlying22
  a22 := Try.isAgg22
  z22 := Try.sizeOf22
  v22 := Try.zeroValue22
  i22 := by kernel_rfl
  t25 := Try.underlying37
  a25 := Try.isAgg37
  z25 := Try.sizeOf37
  v25 := Try.zeroValue37
  i25 := by kernel_rfl
  t33 := Try.underlying23
  a33 := Try.isAgg23
  z33 := Try.sizeOf23
  v33 := Try.zeroValue23
  i33 := by kernel_rfl
  t45 := Try.underlying34
  a45 := Try.isAgg34
  z45 := Try.sizeOf34
  v45 := Try.zeroValue34
  i45 := by kernel_rfl }
open Go.RowKit in
theorem Try.binary_LE_AppendUint64 (B n v : Nat) (hv : v < 18446744073709551616) (sv : Value) (xs : List Value) (w : World) (hown : w.ownsRow B 5 1 sv n xs) (hBw : B ≤ w.heap.size) (hlim : n + 8 ≤ 140737488355328) :
    Calls Try.prog 28 #[.agg #[], sv, .int .u64 v] w fun e w' => ∃ v', e = .returned v' ∧ w'.ownsRow B 5 1 v' (n + 8) (xs ++ Lib.byteCells (Lib.leBytes 8 v)) ∧ Below B w w' := Any.binary_LE_AppendUint64 Try.laysBin35 B n v hv sv xs w hown hBw hlim
def Try.laysBin41_ren : Go.Shelf.Ren := ⟨fun | 41 => 33 | n => n, fun | 37 => 36 | 22 => 22 | 29 => 33 | 0 => 0 | 45 => 34 | 5 => 5 | n => n, fun | n => n⟩
theorem Try.laysBin41 : Go.Proofs.LaysBin.n41 Try.prog Try.laysBin41_ren := {
  mixed := by kernel_rfl
  f41 := Try.func33.trans (congrArg some (by kernel_rfl))
  t0 := Try.underlying0
  a0 := Try.isAgg0
  z0 := Try.sizeOf0
  v0 := Try.zeroValue0
  i0 := by kernel_rfl
  t5 := Try.underlying5
  a5 := Try.isAgg5
  z5 := Try.sizeOf5
  v5 := Try.zeroValue5
  i5 := by kernel_rfl
  t22 := Try.underlying22
  a22 := Try.isAgg22
  z22 := Try.sizeOf22
  v22 := Try.zeroValue22
  i22 := by kernel_rfl
  t29 := Try.underlying33
  a29 := Try.isAgg33
  z29 := Try.sizeOf33
  v29 := Try.zeroValue33
  i29 := by kernel_rfl
  t37 := Try.underlying36
  a37 := Try.isAgg36
  z37 := Try.sizeOf36
  v37 := Try.zeroValue36
  i37 := by kernel_rfl
  t45 := Try.underlying34
  a45 := Try.isAgg34
  z45 := Try.sizeOf34
  v45 := Try.zeroValue34
  i45 := by kernel_rfl }
open Go.RowKit in
theorem Try.binary_BE_AppendUint32 (B n v : Nat) (hv : v < 4294967296) (sv : Value) (xs : List Value) (w : World) (hown : w.ownsRow B 5 1 sv n xs) (hBw : B ≤ w.heap.size) (hlim : n + 4 ≤ 140737488355328) :
    Calls Try.prog 33 #[.agg #[], sv, .int .u32 v] w fun e w' => ∃ v', e = .returned v' ∧ w'.ownsRow B 5 1 v' (n + 4) (xs ++ Lib.byteCells (Lib.beBytes 4 v)) ∧ Below B w w' := Any.binary_BE_AppendUint32 Try.laysBin41 B n v hv sv xs w hown hBw hlim
def Try.laysBin42_ren : Go.Shelf.Ren := ⟨fun | 42 => 31 | n => n, fun | 37 => 36 | 22 => 22 | 33 => 23 | 0 => 0 | 5 => 5 | 45 => 34 | n => n, fun | n => n⟩
theorem Try.laysBin42 : Go.Proofs.LaysBin.n42 Try.prog Try.laysBin42_ren := {
  mixed := by kernel_rfl
  f42 := Try.func31.trans (congrArg some (by kernel_rfl))
  t0 := Try.underlying0
  a0 := Try.isAgg0
  z0 := Try.sizeOf0
  v0 := Try.zeroValue0
  i0 := by kernel_rfl
  t5 := Try.underlying5
  a5 := Try.isAgg5
  z5 := Try.sizeOf5
  v5 := Try.zeroValue5
  i5 := by kernel_rfl
  t22 := Try.underlying22
  a22 := Try.isAgg22
  z22 := Try.sizeOf22
  v22 := Try.zeroValue22
  i22 := by kernel_rfl
  t33 := Try.underlying23
  a33 := Try.isAgg23
  z33 := Try.sizeOf23
  v33 := Try.zeroValue23
  i33 := by kernel_rfl
  t37 := Try.underlying36
  a37 := Try.isAgg36
  z37 := Try.sizeOf36
  v37 := Try.zeroValue36
  i37 := by kernel_rfl
  t45 := Try.underlying34
  a45 := Try.isAgg34
  z45 := Try.sizeOf34
  v45 := Try.zeroValue34
  i45 := by kernel_rfl }
open Go.RowKit in
theorem Try.binary_BE_Uint64 (g o n c : Nat) (b0 b1 b2 b3 b4 b5 b6 b7 : UInt8) (w : World) (hn : 8 ≤ n) (c0 : w.cell? ⟨g, o, none⟩ = some (.int .u8 b0.toNat)) (c1 : w.cell? ⟨g, o + 1, none⟩ = some (.int .u8 b1.toNat)) (c2 : w.cell? ⟨g, o + 2, none⟩ = some (.int .u8 b2.toNat)) (c3 : w.cell? ⟨g, o + 3, none⟩ = some (.int .u8 b3.toNat)) (c4 : w.cell? ⟨g, o + 4, none⟩ = some (.int .u8 b4.toNat)) (c5 : w.cell? ⟨g, o + 5, none⟩ = some (.int .u8 b5.toNat)) (c6 : w.cell? ⟨g, o + 6, none⟩ = some (.int .u8 b6.toNat)) (c7 : w.cell? ⟨g, o + 7, none⟩ = some (.int .u8 b7.toNat)) :
    Calls Try.prog 31 #[.agg #[], .slice (some ⟨g, o, none⟩) n c] w fun e w' => e = .returned (.int .u64 (Lib.beNat [b0, b1, b2, b3, b4, b5, b6, b7])) ∧ Below w.heap.size w w' := Any.binary_BE_Uint64 Try.laysBin42 g o n c b0 b1 b2 b3 b4 b5 b6 b7 w hn c0 c1 c2 c3 c4 c5 c6 c7
def Try.laysBin43_ren : Go.Shelf.Ren := ⟨fun | 43 => 29 | n => n, fun | 37 => 36 | 22 => 22 | 33 => 23 | 0 => 0 | 5 => 5 | 45 => 34 | n => n, fun | n => n⟩
theorem Try.laysBin43 : Go.Proofs.LaysBin.n43 Try.prog Try.laysBin43_ren := {
  mixed := by kernel_rfl
  f43 := Try.func29.trans (congrArg some (by kernel_rfl))
  t0 := Try.underlying0
  a0 := Try.isAgg0
  z0 := Try.sizeOf0
  v0 := Try.zeroValue0
  i0 := by kernel_rfl
  t5 := Try.underlying5
  a5 := Try.isAgg5
  z5 := Try.sizeOf5
  v5 := Try.zeroValue5
  i5 := by kernel_rfl
  t22 := Try.underlying22
  a22 := Try.isAgg22
  z22 := Try.sizeOf22
  v22 := Try.zeroValue22
  i22 := by kernel_rfl
  t33 := Try.underlying23
  a33 := Try.isAgg23
  z33 := Try.sizeOf23
  v33 := Try.zeroValue23
  i33 := by kernel_rfl
  t37 := Try.underlying36
  a37 := Try.isAgg36
  z37 := Try.sizeOf36
  v37 := Try.zeroValue36
  i37 := by kernel_rfl
  t45 := Try.underlying34
  a45 := Try.isAgg34
  z45 := Try.sizeOf34
  v45 := Try.zeroValue34
  i45 := by kernel_rfl }
open Go.RowKit in
theorem Try.binary_BE_PutUint64 (g o n c v : Nat) (hv : v < 18446744073709551616) (x0 x1 x2 x3 x4 x5 x6 x7 : Value) (w : World) (hn : 8 ≤ n) (c0 : w.cell? ⟨g, o, none⟩ = some x0) (c1 : w.cell? ⟨g, o + 1, none⟩ = some x1) (c2 : w.cell? ⟨g, o + 2, none⟩ = some x2) (c3 : w.cell? ⟨g, o + 3, none⟩ = some x3) (c4 : w.cell? ⟨g, o + 4, none⟩ = some x4) (c5 : w.cell? ⟨g, o + 5, none⟩ = some x5) (c6 : w.cell? ⟨g, o + 6, none⟩ = some x6) (c7 : w.cell? ⟨g, o + 7, none⟩ = some x7) (f0 : w.frozen? ⟨g, o, none⟩ = false) (f1 : w.frozen? ⟨g, o + 1, none⟩ = false) (f2 : w.frozen? ⟨g, o + 2, none⟩ = false) (f3 : w.frozen? ⟨g, o + 3, none⟩ = false) (f4 : w.frozen? ⟨g, o + 4, none⟩ = false) (f5 : w.frozen? ⟨g, o + 5, none⟩ = false) (f6 : w.frozen? ⟨g, o + 6, none⟩ = false) (f7 : w.frozen? ⟨g, o + 7, none⟩ = false) :
    Calls Try.prog 29 #[.agg #[], .slice (some ⟨g, o, none⟩) n c, .int .u64 v] w fun e w' => e = .returned (.tuple #[]) ∧ w' = (w.alloc (.cells #[] 36)).setCells g o (Lib.byteCells (Lib.beBytes 8 v)) := Any.binary_BE_PutUint64 Try.laysBin43 g o n c v hv x0 x1 x2 x3 x4 x5 x6 x7 w hn c0 c1 c2 c3 c4 c5 c6 c7 f0 f1 f2 f3 f4 f5 f6 f7
def Try.laysBin44_ren : Go.Shelf.Ren := ⟨fun | 44 => 26 | n => n, fun | 37 => 36 | 22 => 22 | 33 => 23 | 0 => 0 | 45 => 34 | 5 => 5 | n => n, fun | n => n⟩
theorem Try.laysBin44 : Go.Proofs.LaysBin.n44 Try.prog Try.laysBin44_ren := {
  mixed := by kernel_rfl
  f44 := Try.func26.trans (congrArg some (by kernel_rfl))
  t0 := Try.underlying0
  a0 := Try.isAgg0
  z0 := Try.sizeOf0
  v0 := Try.zeroValue0
  i0 := by kernel_rfl
  t5 := Try.underlying5
  a5 := Try.isAgg5
  z5 := Try.sizeOf5
  v5 := Try.zeroValue5
  i5 := by kernel_rfl
  t22 := Try.underlying22
  a22 := Try.isAgg22
  z22 := Try.sizeOf22
  v22 := Try.zeroValue22
  i22 := by kernel_rfl
  t33 := Try.underlying23
  a33 := Try.isAgg23
  z33 := Try.sizeOf23
  v33 := Try.zeroValue23
  i33 := by kernel_rfl
  t37 := Try.underlying36
  a37 := Try.isAgg36
  z37 := Try.sizeOf36
  v37 := Try.zeroValue36
  i37 := by kernel_rfl
  t45 := Try.underlying34
  a45 := Try.isAgg34
  z45 := Try.sizeOf34
  v45 := Try.zeroValue34
  i45 := by kernel_rfl }
open Go.RowKit in
theorem Try.binary_BE_AppendUint64 (B n v : Nat) (hv : v < 18446744073709551616) (sv : Value) (xs : List Value) (w : World) (hown : w.ownsRow B 5 1 sv n xs) (hBw : B ≤ w.heap.size) (hlim : n + 8 ≤ 140737488355328) :
    Calls Try.prog 26 #[.agg #[], sv, .int .u64 v] w fun e w' => ∃ v', e = .returned v' ∧ w'.ownsRow B 5 1 v' (n + 8) (xs ++ Lib.byteCells (Lib.beBytes 8 v)) ∧ Below B w w' := Any.binary_BE_AppendUint64 Try.laysBin44 B n v hv sv xs w hown hBw hlim
open Go.RowKit in
theorem Try.binary_BE_AppendUint32_arg (g o n cap v : Nat) (hv : v < 4294967296) (olds : List Value) (w : World) (hlo : olds.length = n) (holds : ∀ j u, olds[j]? = some u → w.cell? ⟨g, o + j, none⟩ = some u) (hspare : n + 4 ≤ cap → ∀ j, j < 4 → (w.cell? ⟨g, o + n + j, none⟩).isSome = true ∧ w.frozen? ⟨g, o + n + j, none⟩ = false) (hlim : n + 4 ≤ 140737488355328) :
    Calls Try.prog 33 #[.agg #[], .slice (some ⟨g, o, none⟩) n cap, .int .u32 v] w fun e w' =>
      (n + 4 ≤ cap ∧ e = .returned (.slice (some ⟨g, o, none⟩) (n + 4) cap) ∧ w' = ((w.alloc (.cells #[] 36)).alloc (.cells (Lib.byteCells (Lib.beBytes 4 v)).toArray 5)).setCells g (o + n) (Lib.byteCells (Lib.beBytes 4 v))) ∨
      (cap < n + 4 ∧ ∃ v', e = .returned v' ∧ w'.ownsRow (w.heap.size + 2) 5 1 v' (n + 4) (olds ++ Lib.byteCells (Lib.beBytes 4 v)) ∧ Below w.heap.size w w') := Any.binary_BE_AppendUint32_arg Try.laysBin41 g o n cap v hv olds w hlo holds hspare hlim
open Go.RowKit in
theorem Try.binary_BE_AppendUint64_arg (g o n cap v : Nat) (hv : v < 18446744073709551616) (olds : List Value) (w : World) (hlo : olds.length = n) (holds : ∀ j u, olds[j]? = some u → w.cell? ⟨g, o + j, none⟩ = some u) (hspare : n + 8 ≤ cap → ∀ j, j < 8 → (w.cell? ⟨g, o + n + j, none⟩).isSome = true ∧ w.frozen? ⟨g, o + n + j, none⟩ = false) (hlim : n + 8 ≤ 140737488355328) :
    Calls Try.prog 26 #[.agg #[], .slice (some ⟨g, o, none⟩) n cap, .int .u64 v] w fun e w' =>
      (n + 8 ≤ cap ∧ e = .returned (.slice (some ⟨g, o, none⟩) (n + 8) cap) ∧ w' = ((w.alloc (.cells #[] 36)).alloc (.cells (Lib.byteCells (Lib.beBytes 8 v)).toArray 5)).setCells g (o + n) (Lib.byteCells (Lib.beBytes 8 v))) ∨
      (cap < n + 8 ∧ ∃ v', e = .returned v' ∧ w'.ownsRow (w.heap.size + 2) 5 1 v' (n + 8) (olds ++ Lib.byteCells (Lib.beBytes 8 v)) ∧ Below w.heap.size w w') := Any.binary_BE_AppendUint64_arg Try.laysBin44 g o n cap v hv olds w hlo holds hspare hlim
open Go.RowKit in
theorem Try.binary_BE_Uint64_panics (ao : Option Addr) (n c : Nat) (w : World) (hn : n < 8) (hnil : ao = none → n = 0) :
    Calls Try.prog 31 #[.agg #[], .slice ao n c] w fun e w' => Lib.boundsPanicked Try.prog 7 n e ∧ w' = (w.alloc (.cells #[] 36)).drew := Any.binary_BE_Uint64_panics Try.laysBin42 ao n c w hn hnil
open Go.RowKit in
theorem Try.binary_LE_Uint64_z (a : Addr) (n c : Nat) (zs : List Int) (w : World) (hn : 8 ≤ n) (hl : 8 ≤ zs.length) (hcell : ∀ i, i < zs.length → w.cell? (a.add i) = some (.int .u8 (zs.getD i 0))) (hw : ∀ z ∈ zs, (Lit.int .u8 z).wf = true) :
    Calls Try.prog 32 #[.agg #[], .slice (some a) n c] w fun e w' => e = .returned (.int .u64 (Lib.leZ (zs.take 8))) ∧ Below w.heap.size w w' := Any.binary_LE_Uint64_z Try.laysBin33 a n c zs w hn hl hcell hw
open Go.RowKit in
theorem Try.binary_BE_Uint64_z (a : Addr) (n c : Nat) (zs : List Int) (w : World) (hn : 8 ≤ n) (hl : 8 ≤ zs.length) (hcell : ∀ i, i < zs.length → w.cell? (a.add i) = some (.int .u8 (zs.getD i 0))) (hw : ∀ z ∈ zs, (Lit.int .u8 z).wf = true) :
    Calls Try.prog 31 #[.agg #[], .slice (some a) n c] w fun e w' => e = .returned (.int .u64 (Lib.beZ (zs.take 8))) ∧ Below w.heap.size w w' := Any.binary_BE_Uint64_z Try.laysBin42 a n c zs w hn hl hcell hw
def Try.laysSlK4_ren : Go.Shelf.Ren := ⟨fun | 4 => 27 | n => n, fun | 22 => 22 | 4 => 4 | 5 => 5 | n => n, fun | n => n⟩
theorem Try.laysSlK4 : Go.Proofs.SlLaysK.n4 Try.prog Try.laysSlK4_ren := {
  mixed := by kernel_rfl
  f4 := Try.func27.trans (congrArg some (by kernel_rfl))
  t4 := Try.underlying4
  a4 := Try.isAgg4
  z4 := Try.sizeOf4
  v4 := Try.zeroValue4
  t22 := Try.underlying22
  a22 := Try.isAgg22
  z22 := Try.sizeOf22
  v22 := Try.zeroValue22
  t5 := Try.underlying5
  i5 := by kernel_rfl }
open Go.RowKit Go.Lib in
theorem Try.bytes_Clone_at (a : Addr) (n c : Nat) (xs : List Int) (w : World) (hx : xs.length = n) (hbig : n ≤ 140737488355328) (hc : ∀ i, i < n → w.cell? (a.add i) = some (.int .u8 (xs.getD i 0))) :
    Calls Try.prog 27 #[.slice (some a) n c] w fun e w' => ∃ v', e = .returned v' ∧ w'.ownsRow w.heap.size 5 1 v' n (xs.map (Value.int .u8)) ∧ v' ≠ .slice none 0 0 ∧ Below w.heap.size w w' := Any.bytes_Clone_at Try.laysSlK4 a n c xs w hx hbig hc
open Go.RowKit Go.Lib in
theorem Try.bytes_Clone_nil (n c : Nat) (w : World) :
    Calls Try.prog 27 #[.slice none n c] w fun e w' => e = .returned (.slice none 0 0) ∧ w' = w := Any.bytes_Clone_nil Try.laysSlK4 n c w
end Go.Proofs
