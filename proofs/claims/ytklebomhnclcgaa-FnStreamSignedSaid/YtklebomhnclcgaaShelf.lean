/-
  The library contracts of the kit's shelf at this program's numbers, laid by the kit's own tools. No statement is proved here.
-/
import Derived.Ground.MnProg
import Derived.Shelf.Bin.AppendUvarint
import Derived.Shelf.Bin.AppendVarint
import Derived.Shelf.Bin.PutUvarint
import Derived.Shelf.Bin.PutVarint
import Derived.Shelf.Bin.Uvarint
import Derived.Shelf.Bin.Varint
import Derived.Shelf.Bin.UvarintEmpty
import Derived.Shelf.Bin.VarintEmpty
import Derived.Ground.SlbCloneProg
import Derived.Shelf.Bytes.SlClone
import Derived.Test.YtklebomhnclcgaaProg
namespace Go.Proofs
open Go.Shelf
def Try.laysBin47_ren : Go.Shelf.Ren := ⟨fun | 47 => 24 | n => n, fun | 22 => 23 | 33 => 25 | 4 => 4 | 5 => 5 | 45 => 49 | n => n, fun | n => n⟩
theorem Try.laysBin47 : Go.Proofs.LaysBin.n47 Try.prog Try.laysBin47_ren := {
  mixed := by kernel_rfl
  f47 := Try.func24.trans (congrArg some (by kernel_rfl))
  t4 := Try.underlying4
  a4 := Try.isAgg4
  z4 := Try.sizeOf4
  v4 := Try.zeroValue4
  i4 := by kernel_rfl
  t5 := Try.underlying5
  a5 := Try.isAgg5
  z5 := Try.sizeOf5
  v5 := Try.zeroValue5
  i5 := by kernel_rfl
  t22 := Try.underlying23
  a22 := Try.isAgg23
  z22 := Try.sizeOf23
  v22 := Try.zeroValue23
  i22 := by kernel_rfl
  t33 := Try.underlying25
  a33 := Try.isAgg25
  z33 := Try.sizeOf25
  v33 := Try.zeroValue25
  i33 := by kernel_rfl
  t45 := Try.underlying49
  a45 := Try.isAgg49
  z45 := Try.sizeOf49
  v45 := Try.zeroValue49
  i45 := by kernel_rfl }
open Go.RowKit in
theorem Try.binary_AppendUvarint (B n x : Nat) (hx : x < 18446744073709551616) (sv : Value) (xs : List Value) (w : World) (hown : w.ownsRow B 5 1 sv n xs) (hBw : B ≤ w.heap.size) (hlim : n + 10 ≤ 140737488355328) :
    Calls Try.prog 24 #[sv, .int .u64 x] w fun e w' => ∃ v', e = .returned v' ∧ w'.ownsRow B 5 1 v' (n + (Lib.uvarint x).length) (xs ++ Lib.byteCells (Lib.uvarint x)) ∧ Below B w w' := Any.binary_AppendUvarint Try.laysBin47 B n x hx sv xs w hown hBw hlim
def Try.laysBin50_ren : Go.Shelf.Ren := ⟨fun | 50 => 27 | 47 => 24 | n => n, fun | 22 => 23 | 2 => 2 | 33 => 25 | 45 => 49 | 4 => 4 | 5 => 5 | n => n, fun | n => n⟩
theorem Try.laysBin50 : Go.Proofs.LaysBin.n50 Try.prog Try.laysBin50_ren := {
  mixed := by kernel_rfl
  f47 := Try.func24.trans (congrArg some (by kernel_rfl))
  f50 := Try.func27.trans (congrArg some (by kernel_rfl))
  t2 := Try.underlying2
  a2 := Try.isAgg2
  z2 := Try.sizeOf2
  v2 := Try.zeroValue2
  i2 := by kernel_rfl
  t4 := Try.underlying4
  a4 := Try.isAgg4
  z4 := Try.sizeOf4
  v4 := Try.zeroValue4
  i4 := by kernel_rfl
  t5 := Try.underlying5
  a5 := Try.isAgg5
  z5 := Try.sizeOf5
  v5 := Try.zeroValue5
  i5 := by kernel_rfl
  t22 := Try.underlying23
  a22 := Try.isAgg23
  z22 := Try.sizeOf23
  v22 := Try.zeroValue23
  i22 := by kernel_rfl
  t33 := Try.underlying25
  a33 := Try.isAgg25
  z33 := Try.sizeOf25
  v33 := Try.zeroValue25
  i33 := by kernel_rfl
  t45 := Try.underlying49
  a45 := Try.isAgg49
  z45 := Try.sizeOf49
  v45 := Try.zeroValue49
  i45 := by kernel_rfl }
open Go.RowKit in
theorem Try.binary_AppendVarint (B n : Nat) (x : Int) (h0 : -9223372036854775808 ≤ x) (h1 : x ≤ 9223372036854775807) (sv : Value) (xs : List Value) (w : World) (hown : w.ownsRow B 5 1 sv n xs) (hBw : B ≤ w.heap.size) (hlim : n + 10 ≤ 140737488355328) :
    Calls Try.prog 27 #[sv, .int .i64 x] w fun e w' => ∃ v', e = .returned v' ∧ w'.ownsRow B 5 1 v' (n + (Lib.uvarint (Lib.zigzag x)).length) (xs ++ Lib.byteCells (Lib.uvarint (Lib.zigzag x))) ∧ Below B w w' := Any.binary_AppendVarint Try.laysBin50 B n x h0 h1 sv xs w hown hBw hlim
def Try.laysBin46_ren : Go.Shelf.Ren := ⟨fun | 46 => 30 | n => n, fun | 22 => 23 | 33 => 25 | 3 => 3 | 4 => 4 | 5 => 5 | 0 => 0 | 45 => 49 | n => n, fun | n => n⟩
theorem Try.laysBin46 : Go.Proofs.LaysBin.n46 Try.prog Try.laysBin46_ren := {
  mixed := by kernel_rfl
  f46 := Try.func30.trans (congrArg some (by kernel_rfl))
  t0 := Try.underlying0
  a0 := Try.isAgg0
  z0 := Try.sizeOf0
  v0 := Try.zeroValue0
  i0 := by kernel_rfl
  t3 := Try.underlying3
  a3 := Try.isAgg3
  z3 := Try.sizeOf3
  v3 := Try.zeroValue3
  i3 := by kernel_rfl
  t4 := Try.underlying4
  a4 := Try.isAgg4
  z4 := Try.sizeOf4
  v4 := Try.zeroValue4
  i4 := by kernel_rfl
  t5 := Try.underlying5
  a5 := Try.isAgg5
  z5 := Try.sizeOf5
  v5 := Try.zeroValue5
  i5 := by kernel_rfl
  t22 := Try.underlying23
  a22 := Try.isAgg23
  z22 := Try.sizeOf23
  v22 := Try.zeroValue23
  i22 := by kernel_rfl
  t33 := Try.underlying25
  a33 := Try.isAgg25
  z33 := Try.sizeOf25
  v33 := Try.zeroValue25
  i33 := by kernel_rfl
  t45 := Try.underlying49
  a45 := Try.isAgg49
  z45 := Try.sizeOf49
  v45 := Try.zeroValue49
  i45 := by kernel_rfl }
open Go.RowKit in
theorem Try.binary_PutUvarint (g o n c x : Nat) (hx : x < 18446744073709551616) (w : World) (hn : (Lib.uvarint x).length ≤ n) (hcell : ∀ j, j < (Lib.uvarint x).length → (w.cell? ⟨g, o + j, none⟩).isSome = true ∧ w.frozen? ⟨g, o + j, none⟩ = false) :
    Calls Try.prog 30 #[.slice (some ⟨g, o, none⟩) n c, .int .u64 x] w fun e w' => e = .returned (.int .i64 (Lib.uvarint x).length) ∧ w' = w.setCells g o (Lib.byteCells (Lib.uvarint x)) := Any.binary_PutUvarint Try.laysBin46 g o n c x hx w hn hcell
def Try.laysBin49_ren : Go.Shelf.Ren := ⟨fun | 49 => 32 | 46 => 30 | n => n, fun | 22 => 23 | 2 => 2 | 3 => 3 | 33 => 25 | 45 => 49 | 4 => 4 | 5 => 5 | 0 => 0 | n => n, fun | n => n⟩
theorem Try.laysBin49 : Go.Proofs.LaysBin.n49 Try.prog Try.laysBin49_ren := {
  mixed := by kernel_rfl
  f46 := Try.func30.trans (congrArg some (by kernel_rfl))
  f49 := Try.func32.trans (congrArg some (by kernel_rfl))
  t0 := Try.underlying0
  a0 := Try.isAgg0
  z0 := Try.sizeOf0
  v0 := Try.zeroValue0
  i0 := by kernel_rfl
  t2 := Try.underlying2
  a2 := Try.isAgg2
  z2 := Try.sizeOf2
  v2 := Try.zeroValue2
  i2 := by kernel_rfl
  t3 := Try.underlying3
  a3 := Try.isAgg3
  z3 := Try.sizeOf3
  v3 := Try.zeroValue3
  i3 := by kernel_rfl
  t4 := Try.underlying4
  a4 := Try.isAgg4
  z4 := Try.sizeOf4
  v4 := Try.zeroValue4
  i4 := by kernel_rfl
  t5 := Try.underlying5
  a5 := Try.isAgg5
  z5 := Try.sizeOf5
  v5 := Try.zeroValue5
  i5 := by kernel_rfl
  t22 := Try.underlying23
  a22 := Try.isAgg23
  z22 := Try.sizeOf23
  v22 := Try.zeroValue23
  i22 := by kernel_rfl
  t33 := Try.underlying25
  a33 := Try.isAgg25
  z33 := Try.sizeOf25
  v33 := Try.zeroValue25
  i33 := by kernel_rfl
  t45 := Try.underlying49
  a45 := Try.isAgg49
  z45 := Try.sizeOf49
  v45 := Try.zeroValue49
  i45 := by kernel_rfl }
open Go.RowKit in
theorem Try.binary_PutVarint (g o n c : Nat) (x : Int) (h0 : -9223372036854775808 ≤ x) (h1 : x ≤ 9223372036854775807) (w : World) (hn : (Lib.uvarint (Lib.zigzag x)).length ≤ n) (hcell : ∀ j, j < (Lib.uvarint (Lib.zigzag x)).length → (w.cell? ⟨g, o + j, none⟩).isSome = true ∧ w.frozen? ⟨g, o + j, none⟩ = false) :
    Calls Try.prog 32 #[.slice (some ⟨g, o, none⟩) n c, .int .i64 x] w fun e w' => e = .returned (.int .i64 (Lib.uvarint (Lib.zigzag x)).length) ∧ w' = w.setCells g o (Lib.byteCells (Lib.uvarint (Lib.zigzag x))) := Any.binary_PutVarint Try.laysBin49 g o n c x h0 h1 w hn hcell
def Try.laysBin45_ren : Go.Shelf.Ren := ⟨fun | 45 => 26 | n => n, fun | 22 => 23 | 33 => 25 | 3 => 3 | 45 => 49 | 0 => 0 | 5 => 5 | 4 => 4 | n => n, fun | n => n⟩
theorem Try.laysBin45 : Go.Proofs.LaysBin.n45 Try.prog Try.laysBin45_ren := {
  mixed := by kernel_rfl
  f45 := Try.func26.trans (congrArg some (by kernel_rfl))
  t0 := Try.underlying0
  a0 := Try.isAgg0
  z0 := Try.sizeOf0
  v0 := Try.zeroValue0
  i0 := by kernel_rfl
  t3 := Try.underlying3
  a3 := Try.isAgg3
  z3 := Try.sizeOf3
  v3 := Try.zeroValue3
  i3 := by kernel_rfl
  t4 := Try.underlying4
  a4 := Try.isAgg4
  z4 := Try.sizeOf4
  v4 := Try.zeroValue4
  i4 := by kernel_rfl
  t5 := Try.underlying5
  a5 := Try.isAgg5
  z5 := Try.sizeOf5
  v5 := Try.zeroValue5
  i5 := by kernel_rfl
  t22 := Try.underlying23
  a22 := Try.isAgg23
  z22 := Try.sizeOf23
  v22 := Try.zeroValue23
  i22 := by kernel_rfl
  t33 := Try.underlying25
  a33 := Try.isAgg25
  z33 := Try.sizeOf25
  v33 := Try.zeroValue25
  i33 := by kernel_rfl
  t45 := Try.underlying49
  a45 := Try.isAgg49
  z45 := Try.sizeOf49
  v45 := Try.zeroValue49
  i45 := by kernel_rfl }
open Go.RowKit in
theorem Try.binary_Uvarint (g o n c : Nat) (l : List UInt8) (w : World) (hl : l.length = n) (hcell : ∀ j (hj : j < l.length), w.cell? ⟨g, o + j, none⟩ = some (.int .u8 (l[j]).toNat)) :
    Calls Try.prog 26 #[.slice (some ⟨g, o, none⟩) n c] w fun e w' => e = .returned (.tuple #[.int .u64 (Lib.uvarintDec l).1, .int .i64 (Lib.uvarintDec l).2]) ∧ w' = w := Any.binary_Uvarint Try.laysBin45 g o n c l w hl hcell
def Try.laysBin48_ren : Go.Shelf.Ren := ⟨fun | 48 => 28 | 45 => 26 | n => n, fun | 22 => 23 | 2 => 2 | 3 => 3 | 38 => 26 | 33 => 25 | 45 => 49 | 4 => 4 | 0 => 0 | 5 => 5 | n => n, fun | n => n⟩
theorem Try.laysBin48 : Go.Proofs.LaysBin.n48 Try.prog Try.laysBin48_ren := {
  mixed := by kernel_rfl
  f45 := Try.func26.trans (congrArg some (by kernel_rfl))
  f48 := Try.func28.trans (congrArg some (by kernel_rfl))
  t0 := Try.underlying0
  a0 := Try.isAgg0
  z0 := Try.sizeOf0
  v0 := Try.zeroValue0
  i0 := by kernel_rfl
  t2 := Try.underlying2
  a2 := Try.isAgg2
  z2 := Try.sizeOf2
  v2 := Try.zeroValue2
  i2 := by kernel_rfl
  t3 := Try.underlying3
  a3 := Try.isAgg3
  z3 := Try.sizeOf3
  v3 := Try.zeroValue3
  i3 := by kernel_rfl
  t4 := Try.underlying4
  a4 := Try.isAgg4
  z4 := Try.sizeOf4
  v4 := Try.zeroValue4
  i4 := by kernel_rfl
  t5 := Try.underlying5
  a5 := Try.isAgg5
  z5 := Try.sizeOf5
  v5 := Try.zeroValue5
  i5 := by kernel_rfl
  t22 := Try.underlying23
  a22 := Try.isAgg23
  z22 := Try.sizeOf23
  v22 := Try.zeroValue23
  i22 := by kernel_rfl
  t33 := Try.underlying25
  a33 := Try.isAgg25
  z33 := Try.sizeOf25
  v33 := Try.zeroValue25
  i33 := by kernel_rfl
  t38 := Try.underlying26
  a38 := Try.isAgg26
  z38 := Try.sizeOf26
  v38 := Try.zeroValue26
  i38 := by kernel_rfl
  t45 := Try.underlying49
  a45 := Try.isAgg49
  z45 := Try.sizeOf49
  v45 := Try.zeroValue49
  i45 := by kernel_rfl }
open Go.RowKit in
theorem Try.binary_Varint (g o n c : Nat) (l : List UInt8) (w : World) (hl : l.length = n) (hcell : ∀ j (hj : j < l.length), w.cell? ⟨g, o + j, none⟩ = some (.int .u8 (l[j]).toNat)) :
    Calls Try.prog 28 #[.slice (some ⟨g, o, none⟩) n c] w fun e w' => e = .returned (.tuple #[.int .i64 (Lib.varintDec l).1, .int .i64 (Lib.varintDec l).2]) ∧ w' = w := Any.binary_Varint Try.laysBin48 g o n c l w hl hcell
open Go.RowKit in
theorem Try.binary_Uvarint_empty (ao : Option Addr) (c : Nat) (w : World) :
    Calls Try.prog 26 #[.slice ao 0 c] w fun e w' => e = .returned (.tuple #[.int .u64 (Lib.uvarintDec []).1, .int .i64 (Lib.uvarintDec []).2]) ∧ w' = w := Any.binary_Uvarint_empty Try.laysBin45 ao c w
open Go.RowKit in
theorem Try.binary_Varint_empty (ao : Option Addr) (c : Nat) (w : World) :
    Calls Try.prog 28 #[.slice ao 0 c] w fun e w' => e = .returned (.tuple #[.int .i64 (Lib.varintDec []).1, .int .i64 (Lib.varintDec []).2]) ∧ w' = w := Any.binary_Varint_empty Try.laysBin48 ao c w
def Try.laysSlK4_ren : Go.Shelf.Ren := ⟨fun | 4 => 25 | n => n, fun | 22 => 23 | 4 => 4 | 5 => 5 | n => n, fun | n => n⟩
theorem Try.laysSlK4 : Go.Proofs.SlLaysK.n4 Try.prog Try.laysSlK4_ren := {
  mixed := by kernel_rfl
  f4 := Try.func25.trans (congrArg some (by kernel_rfl))
  t4 := Try.underlying4
  a4 := Try.isAgg4
  z4 := Try.sizeOf4
  v4 := Try.zeroValue4
  t22 := Try.underlying23
  a22 := Try.isAgg23
  z22 := Try.sizeOf23
  v22 := Try.zeroValue23
  t5 := Try.underlying5
  i5 := by kernel_rfl }
open Go.RowKit Go.Lib in
theorem Try.bytes_Clone_at (a : Addr) (n c : Nat) (xs : List Int) (w : World) (hx : xs.length = n) (hbig : n ≤ 140737488355328) (hc : ∀ i, i < n → w.cell? (a.add i) = some (.int .u8 (xs.getD i 0))) :
    Calls Try.prog 25 #[.slice (some a) n c] w fun e w' => ∃ v', e = .returned v' ∧ w'.ownsRow w.heap.size 5 1 v' n (xs.map (Value.int .u8)) ∧ v' ≠ .slice none 0 0 ∧ Below w.heap.size w w' := Any.bytes_Clone_at Try.laysSlK4 a n c xs w hx hbig hc
open Go.RowKit Go.Lib in
theorem Try.bytes_Clone_nil (n c : Nat) (w : World) :
    Calls Try.prog 25 #[.slice none n c] w fun e w' => e = .returned (.slice none 0 0) ∧ w' = w := Any.bytes_Clone_nil Try.laysSlK4 n c w
end Go.Proofs
