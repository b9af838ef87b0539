/-
  No cell of these rows narrows 'for every input' (looked for: loops, veiled, ifaces, maps, wideKeys, modest, calm, conditions, laid).
  DERIVED. THE GIVEN ROWS OF THIS SEAT. 12 by the template 'for every input the law returns true; each argument reads behind the call as it read before'; 0 by the template 'total and deterministic' (their statements: YtjonhbanbeleoaaTotals.lean).
  GIVEN WITH THE SEED: the statements are not yours to turn. If you find one false, say at which input.
  Laid BY PROGRAM, IN A SANDBOX (cutbox-rows.mjs): the forced cells as the released guide's own fill.sh prints them over the translation 4d5f39b549071a4c… (all of the seat's roots in one cut). By AI agents, Wed Nov 11 2026. No macro, syntax, notation, axiom, sorry.
-/
import Derived.Test.YtjonhbanbeleoaaChecked
import GoSem.Claim
import GoSem.ClaimJoined
import GoSem.ClaimMapViews
import Derived.JoinedTies
import Derived.KernelRfl
namespace Go.Proofs.Ytjonhbanbeleoaa
/- THE CELL 'sum', in the pinned program and in every row, IS THE sha256 OF THE DUMP (.gsa) THAT YtjonhbanbeleoaaProg.lean LOADS. Nothing in Lean hashes anything: it is a label: what it is worth is what the hold of that sum in a sandbox is worth. -/
noncomputable def Try.pinned : Pinned := { name := "ytjonhbanbeleoaa", sum := "4d5f39b549071a4c53e7b77f79a52b0ad1cfa23446e1a2fe240aa224352c0bd7", checked := Try.checked }
namespace Rows
def none {H : Type} : Left H := { results := [], args := [] }

/-- 'laws.FnExactAppendBigUint64': WHATEVER THE INPUT: true; the input reads as it did. -/
def fnExactAppendBigUint64Spec : ChangeSpec := { name := "fnExactAppendBigUint64", fn := fun _ => fun
  | [d1, d2] => { results := [.lit (.bool true)], args := [d1, d2] }
  | _ => none }
def fnExactAppendBigUint64Row : OpenClaim := { program := "ytjonhbanbeleoaa", sum := "4d5f39b549071a4c53e7b77f79a52b0ad1cfa23446e1a2fe240aa224352c0bd7", func := "loop.example/lib-hexvarint/laws.FnExactAppendBigUint64", spec := "fnExactAppendBigUint64", named := ["encoding/binary.BigEndian"], apart := false }
def FnExactAppendBigUint64Said : Prop := fnExactAppendBigUint64Row.holds Try.pinned (OpenSpec.ofChange fnExactAppendBigUint64Spec)

/-- ITS FALSE NEIGHBOUR: 'it returns false'. Refute it at one input. -/
def fnExactAppendBigUint64Wrong : ChangeSpec := { name := "fnExactAppendBigUint64", fn := fun _ => fun
  | [d1, d2] => { results := [.lit (.bool false)], args := [d1, d2] }
  | _ => none }
def FnExactAppendBigUint64WrongFalsely : Prop := fnExactAppendBigUint64Row.holds Try.pinned (OpenSpec.ofChange fnExactAppendBigUint64Wrong)

/-- 'laws.FnExactAppendLittleUint64': WHATEVER THE INPUT: true; the input reads as it did. -/
def fnExactAppendLittleUint64Spec : ChangeSpec := { name := "fnExactAppendLittleUint64", fn := fun _ => fun
  | [d1, d2] => { results := [.lit (.bool true)], args := [d1, d2] }
  | _ => none }
def fnExactAppendLittleUint64Row : OpenClaim := { program := "ytjonhbanbeleoaa", sum := "4d5f39b549071a4c53e7b77f79a52b0ad1cfa23446e1a2fe240aa224352c0bd7", func := "loop.example/lib-hexvarint/laws.FnExactAppendLittleUint64", spec := "fnExactAppendLittleUint64", named := ["encoding/binary.LittleEndian"], apart := false }
def FnExactAppendLittleUint64Said : Prop := fnExactAppendLittleUint64Row.holds Try.pinned (OpenSpec.ofChange fnExactAppendLittleUint64Spec)

/-- ITS FALSE NEIGHBOUR: 'it returns false'. Refute it at one input. -/
def fnExactAppendLittleUint64Wrong : ChangeSpec := { name := "fnExactAppendLittleUint64", fn := fun _ => fun
  | [d1, d2] => { results := [.lit (.bool false)], args := [d1, d2] }
  | _ => none }
def FnExactAppendLittleUint64WrongFalsely : Prop := fnExactAppendLittleUint64Row.holds Try.pinned (OpenSpec.ofChange fnExactAppendLittleUint64Wrong)

/-- 'laws.FnLittleBytes': WHATEVER THE INPUT: true; the input reads as it did. -/
def fnLittleBytesSpec : ChangeSpec := { name := "fnLittleBytes", fn := fun _ => fun
  | [d] => { results := [.lit (.bool true)], args := [d] }
  | _ => none }
def fnLittleBytesRow : OpenClaim := { program := "ytjonhbanbeleoaa", sum := "4d5f39b549071a4c53e7b77f79a52b0ad1cfa23446e1a2fe240aa224352c0bd7", func := "loop.example/lib-hexvarint/laws.FnLittleBytes", spec := "fnLittleBytes", named := ["encoding/binary.LittleEndian"], apart := false }
def FnLittleBytesSaid : Prop := fnLittleBytesRow.holds Try.pinned (OpenSpec.ofChange fnLittleBytesSpec)

/-- ITS FALSE NEIGHBOUR: 'it returns false'. Refute it at one input. -/
def fnLittleBytesWrong : ChangeSpec := { name := "fnLittleBytes", fn := fun _ => fun
  | [d] => { results := [.lit (.bool false)], args := [d] }
  | _ => none }
def FnLittleBytesWrongFalsely : Prop := fnLittleBytesRow.holds Try.pinned (OpenSpec.ofChange fnLittleBytesWrong)

/-- 'laws.FnExactPutBigUint64': WHATEVER THE INPUT: true; the input reads as it did. -/
def fnExactPutBigUint64Spec : ChangeSpec := { name := "fnExactPutBigUint64", fn := fun _ => fun
  | [d1, d2] => { results := [.lit (.bool true)], args := [d1, d2] }
  | _ => none }
def fnExactPutBigUint64Row : OpenClaim := { program := "ytjonhbanbeleoaa", sum := "4d5f39b549071a4c53e7b77f79a52b0ad1cfa23446e1a2fe240aa224352c0bd7", func := "loop.example/lib-hexvarint/laws.FnExactPutBigUint64", spec := "fnExactPutBigUint64", named := ["encoding/binary.BigEndian"], apart := false }
def FnExactPutBigUint64Said : Prop := fnExactPutBigUint64Row.holds Try.pinned (OpenSpec.ofChange fnExactPutBigUint64Spec)

/-- ITS FALSE NEIGHBOUR: 'it returns false'. Refute it at one input. -/
def fnExactPutBigUint64Wrong : ChangeSpec := { name := "fnExactPutBigUint64", fn := fun _ => fun
  | [d1, d2] => { results := [.lit (.bool false)], args := [d1, d2] }
  | _ => none }
def FnExactPutBigUint64WrongFalsely : Prop := fnExactPutBigUint64Row.holds Try.pinned (OpenSpec.ofChange fnExactPutBigUint64Wrong)

/-- 'laws.FnExactPutLittleUint64': WHATEVER THE INPUT: true; the input reads as it did. -/
def fnExactPutLittleUint64Spec : ChangeSpec := { name := "fnExactPutLittleUint64", fn := fun _ => fun
  | [d1, d2] => { results := [.lit (.bool true)], args := [d1, d2] }
  | _ => none }
def fnExactPutLittleUint64Row : OpenClaim := { program := "ytjonhbanbeleoaa", sum := "4d5f39b549071a4c53e7b77f79a52b0ad1cfa23446e1a2fe240aa224352c0bd7", func := "loop.example/lib-hexvarint/laws.FnExactPutLittleUint64", spec := "fnExactPutLittleUint64", named := ["encoding/binary.LittleEndian"], apart := false }
def FnExactPutLittleUint64Said : Prop := fnExactPutLittleUint64Row.holds Try.pinned (OpenSpec.ofChange fnExactPutLittleUint64Spec)

/-- ITS FALSE NEIGHBOUR: 'it returns false'. Refute it at one input. -/
def fnExactPutLittleUint64Wrong : ChangeSpec := { name := "fnExactPutLittleUint64", fn := fun _ => fun
  | [d1, d2] => { results := [.lit (.bool false)], args := [d1, d2] }
  | _ => none }
def FnExactPutLittleUint64WrongFalsely : Prop := fnExactPutLittleUint64Row.holds Try.pinned (OpenSpec.ofChange fnExactPutLittleUint64Wrong)

/-- 'laws.FnBigBack64': WHATEVER THE INPUT: true; the input reads as it did. -/
def fnBigBack64Spec : ChangeSpec := { name := "fnBigBack64", fn := fun _ => fun
  | [d1, d2, d3] => { results := [.lit (.bool true)], args := [d1, d2, d3] }
  | _ => none }
def fnBigBack64Row : OpenClaim := { program := "ytjonhbanbeleoaa", sum := "4d5f39b549071a4c53e7b77f79a52b0ad1cfa23446e1a2fe240aa224352c0bd7", func := "loop.example/lib-hexvarint/laws.FnBigBack64", spec := "fnBigBack64", named := ["encoding/binary.BigEndian"], apart := false }
def FnBigBack64Said : Prop := fnBigBack64Row.holds Try.pinned (OpenSpec.ofChange fnBigBack64Spec)

/-- ITS FALSE NEIGHBOUR: 'it returns false'. Refute it at one input. -/
def fnBigBack64Wrong : ChangeSpec := { name := "fnBigBack64", fn := fun _ => fun
  | [d1, d2, d3] => { results := [.lit (.bool false)], args := [d1, d2, d3] }
  | _ => none }
def FnBigBack64WrongFalsely : Prop := fnBigBack64Row.holds Try.pinned (OpenSpec.ofChange fnBigBack64Wrong)

/-- 'laws.FnLittleBack64': WHATEVER THE INPUT: true; the input reads as it did. -/
def fnLittleBack64Spec : ChangeSpec := { name := "fnLittleBack64", fn := fun _ => fun
  | [d1, d2, d3] => { results := [.lit (.bool true)], args := [d1, d2, d3] }
  | _ => none }
def fnLittleBack64Row : OpenClaim := { program := "ytjonhbanbeleoaa", sum := "4d5f39b549071a4c53e7b77f79a52b0ad1cfa23446e1a2fe240aa224352c0bd7", func := "loop.example/lib-hexvarint/laws.FnLittleBack64", spec := "fnLittleBack64", named := ["encoding/binary.LittleEndian"], apart := false }
def FnLittleBack64Said : Prop := fnLittleBack64Row.holds Try.pinned (OpenSpec.ofChange fnLittleBack64Spec)

/-- ITS FALSE NEIGHBOUR: 'it returns false'. Refute it at one input. -/
def fnLittleBack64Wrong : ChangeSpec := { name := "fnLittleBack64", fn := fun _ => fun
  | [d1, d2, d3] => { results := [.lit (.bool false)], args := [d1, d2, d3] }
  | _ => none }
def FnLittleBack64WrongFalsely : Prop := fnLittleBack64Row.holds Try.pinned (OpenSpec.ofChange fnLittleBack64Wrong)

/-- 'laws.FnBigHalves64': WHATEVER THE INPUT: true; the input reads as it did. -/
def fnBigHalves64Spec : ChangeSpec := { name := "fnBigHalves64", fn := fun _ => fun
  | [d] => { results := [.lit (.bool true)], args := [d] }
  | _ => none }
def fnBigHalves64Row : OpenClaim := { program := "ytjonhbanbeleoaa", sum := "4d5f39b549071a4c53e7b77f79a52b0ad1cfa23446e1a2fe240aa224352c0bd7", func := "loop.example/lib-hexvarint/laws.FnBigHalves64", spec := "fnBigHalves64", named := ["encoding/binary.BigEndian"], apart := false }
def FnBigHalves64Said : Prop := fnBigHalves64Row.holds Try.pinned (OpenSpec.ofChange fnBigHalves64Spec)

/-- ITS FALSE NEIGHBOUR: 'it returns false'. Refute it at one input. -/
def fnBigHalves64Wrong : ChangeSpec := { name := "fnBigHalves64", fn := fun _ => fun
  | [d] => { results := [.lit (.bool false)], args := [d] }
  | _ => none }
def FnBigHalves64WrongFalsely : Prop := fnBigHalves64Row.holds Try.pinned (OpenSpec.ofChange fnBigHalves64Wrong)

/-- 'laws.FnLittleHalves64': WHATEVER THE INPUT: true; the input reads as it did. -/
def fnLittleHalves64Spec : ChangeSpec := { name := "fnLittleHalves64", fn := fun _ => fun
  | [d] => { results := [.lit (.bool true)], args := [d] }
  | _ => none }
def fnLittleHalves64Row : OpenClaim := { program := "ytjonhbanbeleoaa", sum := "4d5f39b549071a4c53e7b77f79a52b0ad1cfa23446e1a2fe240aa224352c0bd7", func := "loop.example/lib-hexvarint/laws.FnLittleHalves64", spec := "fnLittleHalves64", named := ["encoding/binary.LittleEndian"], apart := false }
def FnLittleHalves64Said : Prop := fnLittleHalves64Row.holds Try.pinned (OpenSpec.ofChange fnLittleHalves64Spec)

/-- ITS FALSE NEIGHBOUR: 'it returns false'. Refute it at one input. -/
def fnLittleHalves64Wrong : ChangeSpec := { name := "fnLittleHalves64", fn := fun _ => fun
  | [d] => { results := [.lit (.bool false)], args := [d] }
  | _ => none }
def FnLittleHalves64WrongFalsely : Prop := fnLittleHalves64Row.holds Try.pinned (OpenSpec.ofChange fnLittleHalves64Wrong)

/-- 'laws.FnBigPut64': WHATEVER THE INPUT: true; the input reads as it did. -/
def fnBigPut64Spec : ChangeSpec := { name := "fnBigPut64", fn := fun _ => fun
  | [d1, d2] => { results := [.lit (.bool true)], args := [d1, d2] }
  | _ => none }
def fnBigPut64Row : OpenClaim := { program := "ytjonhbanbeleoaa", sum := "4d5f39b549071a4c53e7b77f79a52b0ad1cfa23446e1a2fe240aa224352c0bd7", func := "loop.example/lib-hexvarint/laws.FnBigPut64", spec := "fnBigPut64", named := ["encoding/binary.BigEndian"], apart := false }
def FnBigPut64Said : Prop := fnBigPut64Row.holds Try.pinned (OpenSpec.ofChange fnBigPut64Spec)

/-- ITS FALSE NEIGHBOUR: 'it returns false'. Refute it at one input. -/
def fnBigPut64Wrong : ChangeSpec := { name := "fnBigPut64", fn := fun _ => fun
  | [d1, d2] => { results := [.lit (.bool false)], args := [d1, d2] }
  | _ => none }
def FnBigPut64WrongFalsely : Prop := fnBigPut64Row.holds Try.pinned (OpenSpec.ofChange fnBigPut64Wrong)

/-- 'laws.FnLittlePut64': WHATEVER THE INPUT: true; the input reads as it did. -/
def fnLittlePut64Spec : ChangeSpec := { name := "fnLittlePut64", fn := fun _ => fun
  | [d1, d2] => { results := [.lit (.bool true)], args := [d1, d2] }
  | _ => none }
def fnLittlePut64Row : OpenClaim := { program := "ytjonhbanbeleoaa", sum := "4d5f39b549071a4c53e7b77f79a52b0ad1cfa23446e1a2fe240aa224352c0bd7", func := "loop.example/lib-hexvarint/laws.FnLittlePut64", spec := "fnLittlePut64", named := ["encoding/binary.LittleEndian"], apart := false }
def FnLittlePut64Said : Prop := fnLittlePut64Row.holds Try.pinned (OpenSpec.ofChange fnLittlePut64Spec)

/-- ITS FALSE NEIGHBOUR: 'it returns false'. Refute it at one input. -/
def fnLittlePut64Wrong : ChangeSpec := { name := "fnLittlePut64", fn := fun _ => fun
  | [d1, d2] => { results := [.lit (.bool false)], args := [d1, d2] }
  | _ => none }
def FnLittlePut64WrongFalsely : Prop := fnLittlePut64Row.holds Try.pinned (OpenSpec.ofChange fnLittlePut64Wrong)

/-- 'laws.FnEndsTurned64': WHATEVER THE INPUT: true; the input reads as it did. -/
def fnEndsTurned64Spec : ChangeSpec := { name := "fnEndsTurned64", fn := fun _ => fun
  | [d1, d2] => { results := [.lit (.bool true)], args := [d1, d2] }
  | _ => none }
def fnEndsTurned64Row : OpenClaim := { program := "ytjonhbanbeleoaa", sum := "4d5f39b549071a4c53e7b77f79a52b0ad1cfa23446e1a2fe240aa224352c0bd7", func := "loop.example/lib-hexvarint/laws.FnEndsTurned64", spec := "fnEndsTurned64", named := ["encoding/binary.BigEndian", "encoding/binary.LittleEndian"], apart := false }
def FnEndsTurned64Said : Prop := fnEndsTurned64Row.holds Try.pinned (OpenSpec.ofChange fnEndsTurned64Spec)

/-- ITS FALSE NEIGHBOUR: 'it returns false'. Refute it at one input. -/
def fnEndsTurned64Wrong : ChangeSpec := { name := "fnEndsTurned64", fn := fun _ => fun
  | [d1, d2] => { results := [.lit (.bool false)], args := [d1, d2] }
  | _ => none }
def FnEndsTurned64WrongFalsely : Prop := fnEndsTurned64Row.holds Try.pinned (OpenSpec.ofChange fnEndsTurned64Wrong)

/- THE SECOND FORM. 'bulk': how many values and letters a reading holds, each counted each time it is reached (what is shared counts as often as it is met; a slice's spare places count too). A statement '..UptoSaid' is the law's where the arguments, and the package variables that the reading takes, are together of bulk at most 1048576: NARROWER than '..Said'. Prove '..Said' where nothing that the law and all that it calls make is longer than what came in: it says more and counts as full. Else prove '..UptoSaid'. A law counts once. -/
mutual
def uptoBulk {H : Type} : DataW H → Nat
  | .lit (.string bytes) => bytes.length + 1
  | .lit _ => 1
  | .nil => 1
  | .ptr d => uptoBulk d + 1
  | .slice elems spare => uptoBulkAll elems + uptoBulkAll spare + 1
  | .agg parts => uptoBulkAll parts + 1
  | .iface _ d => uptoBulk d + 1
  | .map entries => uptoBulkEntries entries + 1
  | .held _ => 1
def uptoBulkAll {H : Type} : List (DataW H) → Nat
  | [] => 0
  | d :: r => uptoBulk d + uptoBulkAll r
def uptoBulkEntries {H : Type} : List (Lit × DataW H) → Nat
  | [] => 0
  | x :: r => uptoBulkEntry x + uptoBulkEntries r
def uptoBulkEntry {H : Type} : Lit × DataW H → Nat
  | (.string bytes, d) => bytes.length + uptoBulk d + 1
  | (_, d) => uptoBulk d + 1
 end
def uptoSmall : (H : Type) → List (DataW H) → Bool := fun _ ds => decide (uptoBulkAll ds ≤ 1048576)
def OpenSpec.upto (s : _root_.Go.ChangeSpec) : _root_.Go.OpenSpec := { _root_.Go.OpenSpec.ofChange s with cond := some uptoSmall }

/-- 'laws.FnExactAppendBigUint64', WHERE WHAT IT READS IS OF BULK AT MOST 1048576: true; the input reads as it did. -/
def fnExactAppendBigUint64UptoRow : OpenClaim := { program := "ytjonhbanbeleoaa", sum := "4d5f39b549071a4c53e7b77f79a52b0ad1cfa23446e1a2fe240aa224352c0bd7", func := "loop.example/lib-hexvarint/laws.FnExactAppendBigUint64", spec := "fnExactAppendBigUint64", named := ["encoding/binary.BigEndian"], apart := false, narrowed := true }
def FnExactAppendBigUint64UptoSaid : Prop := fnExactAppendBigUint64UptoRow.holds Try.pinned (OpenSpec.upto fnExactAppendBigUint64Spec)

/-- 'laws.FnExactAppendLittleUint64', WHERE WHAT IT READS IS OF BULK AT MOST 1048576: true; the input reads as it did. -/
def fnExactAppendLittleUint64UptoRow : OpenClaim := { program := "ytjonhbanbeleoaa", sum := "4d5f39b549071a4c53e7b77f79a52b0ad1cfa23446e1a2fe240aa224352c0bd7", func := "loop.example/lib-hexvarint/laws.FnExactAppendLittleUint64", spec := "fnExactAppendLittleUint64", named := ["encoding/binary.LittleEndian"], apart := false, narrowed := true }
def FnExactAppendLittleUint64UptoSaid : Prop := fnExactAppendLittleUint64UptoRow.holds Try.pinned (OpenSpec.upto fnExactAppendLittleUint64Spec)

/-- 'laws.FnLittleBytes', WHERE WHAT IT READS IS OF BULK AT MOST 1048576: true; the input reads as it did. -/
def fnLittleBytesUptoRow : OpenClaim := { program := "ytjonhbanbeleoaa", sum := "4d5f39b549071a4c53e7b77f79a52b0ad1cfa23446e1a2fe240aa224352c0bd7", func := "loop.example/lib-hexvarint/laws.FnLittleBytes", spec := "fnLittleBytes", named := ["encoding/binary.LittleEndian"], apart := false, narrowed := true }
def FnLittleBytesUptoSaid : Prop := fnLittleBytesUptoRow.holds Try.pinned (OpenSpec.upto fnLittleBytesSpec)

/-- 'laws.FnExactPutBigUint64', WHERE WHAT IT READS IS OF BULK AT MOST 1048576: true; the input reads as it did. -/
def fnExactPutBigUint64UptoRow : OpenClaim := { program := "ytjonhbanbeleoaa", sum := "4d5f39b549071a4c53e7b77f79a52b0ad1cfa23446e1a2fe240aa224352c0bd7", func := "loop.example/lib-hexvarint/laws.FnExactPutBigUint64", spec := "fnExactPutBigUint64", named := ["encoding/binary.BigEndian"], apart := false, narrowed := true }
def FnExactPutBigUint64UptoSaid : Prop := fnExactPutBigUint64UptoRow.holds Try.pinned (OpenSpec.upto fnExactPutBigUint64Spec)

/-- 'laws.FnExactPutLittleUint64', WHERE WHAT IT READS IS OF BULK AT MOST 1048576: true; the input reads as it did. -/
def fnExactPutLittleUint64UptoRow : OpenClaim := { program := "ytjonhbanbeleoaa", sum := "4d5f39b549071a4c53e7b77f79a52b0ad1cfa23446e1a2fe240aa224352c0bd7", func := "loop.example/lib-hexvarint/laws.FnExactPutLittleUint64", spec := "fnExactPutLittleUint64", named := ["encoding/binary.LittleEndian"], apart := false, narrowed := true }
def FnExactPutLittleUint64UptoSaid : Prop := fnExactPutLittleUint64UptoRow.holds Try.pinned (OpenSpec.upto fnExactPutLittleUint64Spec)

/-- 'laws.FnBigBack64', WHERE WHAT IT READS IS OF BULK AT MOST 1048576: true; the input reads as it did. -/
def fnBigBack64UptoRow : OpenClaim := { program := "ytjonhbanbeleoaa", sum := "4d5f39b549071a4c53e7b77f79a52b0ad1cfa23446e1a2fe240aa224352c0bd7", func := "loop.example/lib-hexvarint/laws.FnBigBack64", spec := "fnBigBack64", named := ["encoding/binary.BigEndian"], apart := false, narrowed := true }
def FnBigBack64UptoSaid : Prop := fnBigBack64UptoRow.holds Try.pinned (OpenSpec.upto fnBigBack64Spec)

/-- 'laws.FnLittleBack64', WHERE WHAT IT READS IS OF BULK AT MOST 1048576: true; the input reads as it did. -/
def fnLittleBack64UptoRow : OpenClaim := { program := "ytjonhbanbeleoaa", sum := "4d5f39b549071a4c53e7b77f79a52b0ad1cfa23446e1a2fe240aa224352c0bd7", func := "loop.example/lib-hexvarint/laws.FnLittleBack64", spec := "fnLittleBack64", named := ["encoding/binary.LittleEndian"], apart := false, narrowed := true }
def FnLittleBack64UptoSaid : Prop := fnLittleBack64UptoRow.holds Try.pinned (OpenSpec.upto fnLittleBack64Spec)

/-- 'laws.FnBigHalves64', WHERE WHAT IT READS IS OF BULK AT MOST 1048576: true; the input reads as it did. -/
def fnBigHalves64UptoRow : OpenClaim := { program := "ytjonhbanbeleoaa", sum := "4d5f39b549071a4c53e7b77f79a52b0ad1cfa23446e1a2fe240aa224352c0bd7", func := "loop.example/lib-hexvarint/laws.FnBigHalves64", spec := "fnBigHalves64", named := ["encoding/binary.BigEndian"], apart := false, narrowed := true }
def FnBigHalves64UptoSaid : Prop := fnBigHalves64UptoRow.holds Try.pinned (OpenSpec.upto fnBigHalves64Spec)

/-- 'laws.FnLittleHalves64', WHERE WHAT IT READS IS OF BULK AT MOST 1048576: true; the input reads as it did. -/
def fnLittleHalves64UptoRow : OpenClaim := { program := "ytjonhbanbeleoaa", sum := "4d5f39b549071a4c53e7b77f79a52b0ad1cfa23446e1a2fe240aa224352c0bd7", func := "loop.example/lib-hexvarint/laws.FnLittleHalves64", spec := "fnLittleHalves64", named := ["encoding/binary.LittleEndian"], apart := false, narrowed := true }
def FnLittleHalves64UptoSaid : Prop := fnLittleHalves64UptoRow.holds Try.pinned (OpenSpec.upto fnLittleHalves64Spec)

/-- 'laws.FnBigPut64', WHERE WHAT IT READS IS OF BULK AT MOST 1048576: true; the input reads as it did. -/
def fnBigPut64UptoRow : OpenClaim := { program := "ytjonhbanbeleoaa", sum := "4d5f39b549071a4c53e7b77f79a52b0ad1cfa23446e1a2fe240aa224352c0bd7", func := "loop.example/lib-hexvarint/laws.FnBigPut64", spec := "fnBigPut64", named := ["encoding/binary.BigEndian"], apart := false, narrowed := true }
def FnBigPut64UptoSaid : Prop := fnBigPut64UptoRow.holds Try.pinned (OpenSpec.upto fnBigPut64Spec)

/-- 'laws.FnLittlePut64', WHERE WHAT IT READS IS OF BULK AT MOST 1048576: true; the input reads as it did. -/
def fnLittlePut64UptoRow : OpenClaim := { program := "ytjonhbanbeleoaa", sum := "4d5f39b549071a4c53e7b77f79a52b0ad1cfa23446e1a2fe240aa224352c0bd7", func := "loop.example/lib-hexvarint/laws.FnLittlePut64", spec := "fnLittlePut64", named := ["encoding/binary.LittleEndian"], apart := false, narrowed := true }
def FnLittlePut64UptoSaid : Prop := fnLittlePut64UptoRow.holds Try.pinned (OpenSpec.upto fnLittlePut64Spec)

/-- 'laws.FnEndsTurned64', WHERE WHAT IT READS IS OF BULK AT MOST 1048576: true; the input reads as it did. -/
def fnEndsTurned64UptoRow : OpenClaim := { program := "ytjonhbanbeleoaa", sum := "4d5f39b549071a4c53e7b77f79a52b0ad1cfa23446e1a2fe240aa224352c0bd7", func := "loop.example/lib-hexvarint/laws.FnEndsTurned64", spec := "fnEndsTurned64", named := ["encoding/binary.BigEndian", "encoding/binary.LittleEndian"], apart := false, narrowed := true }
def FnEndsTurned64UptoSaid : Prop := fnEndsTurned64UptoRow.holds Try.pinned (OpenSpec.upto fnEndsTurned64Spec)

end Rows
end Go.Proofs.Ytjonhbanbeleoaa
