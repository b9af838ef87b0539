/-
  No cell of these rows narrows 'for every input' (looked for: loops, veiled, ifaces, maps, wideKeys, modest, calm, conditions, laid).
  DERIVED. THE GIVEN ROWS OF THIS SEAT. 12 by the template 'for every input the law returns true; each argument reads behind the call as it read before'; 0 by the template 'total and deterministic' (their statements: YtfignfkmfhbkcaaTotals.lean).
  GIVEN WITH THE SEED: the statements are not yours to turn. If you find one false, say at which input.
  Laid BY PROGRAM, IN A SANDBOX (cutbox-rows.mjs): the forced cells as the released guide's own fill.sh prints them over the translation 01bb387c59e3524d… (all of the seat's roots in one cut). By AI agents, Wed Nov 11 2026. No macro, syntax, notation, axiom, sorry.
-/
import Derived.Test.YtfignfkmfhbkcaaChecked
import GoSem.Claim
import GoSem.ClaimJoined
import GoSem.ClaimMapViews
import Derived.JoinedTies
import Derived.KernelRfl
namespace Go.Proofs.Ytfignfkmfhbkcaa
/- THE CELL 'sum', in the pinned program and in every row, IS THE sha256 OF THE DUMP (.gsa) THAT YtfignfkmfhbkcaaProg.lean LOADS. Nothing in Lean hashes anything: it is a label: what it is worth is what the hold of that sum in a sandbox is worth. -/
noncomputable def Try.pinned : Pinned := { name := "ytfignfkmfhbkcaa", sum := "01bb387c59e3524d98619f8fefd1fe70683983aade18cedb84b38f4e8723607d", checked := Try.checked }
namespace Rows
def none {H : Type} : Left H := { results := [], args := [] }

/-- 'laws.FnBigOrder64': WHATEVER THE INPUT: true; the input reads as it did. -/
def fnBigOrder64Spec : ChangeSpec := { name := "fnBigOrder64", fn := fun _ => fun
  | [d1, d2] => { results := [.lit (.bool true)], args := [d1, d2] }
  | _ => none }
def fnBigOrder64Row : OpenClaim := { program := "ytfignfkmfhbkcaa", sum := "01bb387c59e3524d98619f8fefd1fe70683983aade18cedb84b38f4e8723607d", func := "loop.example/lib-hexvarint/laws.FnBigOrder64", spec := "fnBigOrder64", named := ["encoding/binary.BigEndian"], apart := false }
def FnBigOrder64Said : Prop := fnBigOrder64Row.holds Try.pinned (OpenSpec.ofChange fnBigOrder64Spec)

/-- ITS FALSE NEIGHBOUR: 'it returns false'. Refute it at one input. -/
def fnBigOrder64Wrong : ChangeSpec := { name := "fnBigOrder64", fn := fun _ => fun
  | [d1, d2] => { results := [.lit (.bool false)], args := [d1, d2] }
  | _ => none }
def FnBigOrder64WrongFalsely : Prop := fnBigOrder64Row.holds Try.pinned (OpenSpec.ofChange fnBigOrder64Wrong)

/-- 'laws.FnBigXor64': WHATEVER THE INPUT: true; the input reads as it did. -/
def fnBigXor64Spec : ChangeSpec := { name := "fnBigXor64", fn := fun _ => fun
  | [d1, d2] => { results := [.lit (.bool true)], args := [d1, d2] }
  | _ => none }
def fnBigXor64Row : OpenClaim := { program := "ytfignfkmfhbkcaa", sum := "01bb387c59e3524d98619f8fefd1fe70683983aade18cedb84b38f4e8723607d", func := "loop.example/lib-hexvarint/laws.FnBigXor64", spec := "fnBigXor64", named := ["encoding/binary.BigEndian"], apart := false }
def FnBigXor64Said : Prop := fnBigXor64Row.holds Try.pinned (OpenSpec.ofChange fnBigXor64Spec)

/-- ITS FALSE NEIGHBOUR: 'it returns false'. Refute it at one input. -/
def fnBigXor64Wrong : ChangeSpec := { name := "fnBigXor64", fn := fun _ => fun
  | [d1, d2] => { results := [.lit (.bool false)], args := [d1, d2] }
  | _ => none }
def FnBigXor64WrongFalsely : Prop := fnBigXor64Row.holds Try.pinned (OpenSpec.ofChange fnBigXor64Wrong)

/-- 'laws.FnLittleXor64': WHATEVER THE INPUT: true; the input reads as it did. -/
def fnLittleXor64Spec : ChangeSpec := { name := "fnLittleXor64", fn := fun _ => fun
  | [d1, d2] => { results := [.lit (.bool true)], args := [d1, d2] }
  | _ => none }
def fnLittleXor64Row : OpenClaim := { program := "ytfignfkmfhbkcaa", sum := "01bb387c59e3524d98619f8fefd1fe70683983aade18cedb84b38f4e8723607d", func := "loop.example/lib-hexvarint/laws.FnLittleXor64", spec := "fnLittleXor64", named := ["encoding/binary.LittleEndian"], apart := false }
def FnLittleXor64Said : Prop := fnLittleXor64Row.holds Try.pinned (OpenSpec.ofChange fnLittleXor64Spec)

/-- ITS FALSE NEIGHBOUR: 'it returns false'. Refute it at one input. -/
def fnLittleXor64Wrong : ChangeSpec := { name := "fnLittleXor64", fn := fun _ => fun
  | [d1, d2] => { results := [.lit (.bool false)], args := [d1, d2] }
  | _ => none }
def FnLittleXor64WrongFalsely : Prop := fnLittleXor64Row.holds Try.pinned (OpenSpec.ofChange fnLittleXor64Wrong)

/-- 'laws.FnLittleBack32': WHATEVER THE INPUT: true; the input reads as it did. -/
def fnLittleBack32Spec : ChangeSpec := { name := "fnLittleBack32", fn := fun _ => fun
  | [d1, d2, d3] => { results := [.lit (.bool true)], args := [d1, d2, d3] }
  | _ => none }
def fnLittleBack32Row : OpenClaim := { program := "ytfignfkmfhbkcaa", sum := "01bb387c59e3524d98619f8fefd1fe70683983aade18cedb84b38f4e8723607d", func := "loop.example/lib-hexvarint/laws.FnLittleBack32", spec := "fnLittleBack32", named := ["encoding/binary.LittleEndian"], apart := false }
def FnLittleBack32Said : Prop := fnLittleBack32Row.holds Try.pinned (OpenSpec.ofChange fnLittleBack32Spec)

/-- ITS FALSE NEIGHBOUR: 'it returns false'. Refute it at one input. -/
def fnLittleBack32Wrong : ChangeSpec := { name := "fnLittleBack32", fn := fun _ => fun
  | [d1, d2, d3] => { results := [.lit (.bool false)], args := [d1, d2, d3] }
  | _ => none }
def FnLittleBack32WrongFalsely : Prop := fnLittleBack32Row.holds Try.pinned (OpenSpec.ofChange fnLittleBack32Wrong)

/-- 'laws.FnBigHalves32': WHATEVER THE INPUT: true; the input reads as it did. -/
def fnBigHalves32Spec : ChangeSpec := { name := "fnBigHalves32", fn := fun _ => fun
  | [d] => { results := [.lit (.bool true)], args := [d] }
  | _ => none }
def fnBigHalves32Row : OpenClaim := { program := "ytfignfkmfhbkcaa", sum := "01bb387c59e3524d98619f8fefd1fe70683983aade18cedb84b38f4e8723607d", func := "loop.example/lib-hexvarint/laws.FnBigHalves32", spec := "fnBigHalves32", named := ["encoding/binary.BigEndian"], apart := false }
def FnBigHalves32Said : Prop := fnBigHalves32Row.holds Try.pinned (OpenSpec.ofChange fnBigHalves32Spec)

/-- ITS FALSE NEIGHBOUR: 'it returns false'. Refute it at one input. -/
def fnBigHalves32Wrong : ChangeSpec := { name := "fnBigHalves32", fn := fun _ => fun
  | [d] => { results := [.lit (.bool false)], args := [d] }
  | _ => none }
def FnBigHalves32WrongFalsely : Prop := fnBigHalves32Row.holds Try.pinned (OpenSpec.ofChange fnBigHalves32Wrong)

/-- 'laws.FnLittleHalves32': WHATEVER THE INPUT: true; the input reads as it did. -/
def fnLittleHalves32Spec : ChangeSpec := { name := "fnLittleHalves32", fn := fun _ => fun
  | [d] => { results := [.lit (.bool true)], args := [d] }
  | _ => none }
def fnLittleHalves32Row : OpenClaim := { program := "ytfignfkmfhbkcaa", sum := "01bb387c59e3524d98619f8fefd1fe70683983aade18cedb84b38f4e8723607d", func := "loop.example/lib-hexvarint/laws.FnLittleHalves32", spec := "fnLittleHalves32", named := ["encoding/binary.LittleEndian"], apart := false }
def FnLittleHalves32Said : Prop := fnLittleHalves32Row.holds Try.pinned (OpenSpec.ofChange fnLittleHalves32Spec)

/-- ITS FALSE NEIGHBOUR: 'it returns false'. Refute it at one input. -/
def fnLittleHalves32Wrong : ChangeSpec := { name := "fnLittleHalves32", fn := fun _ => fun
  | [d] => { results := [.lit (.bool false)], args := [d] }
  | _ => none }
def FnLittleHalves32WrongFalsely : Prop := fnLittleHalves32Row.holds Try.pinned (OpenSpec.ofChange fnLittleHalves32Wrong)

/-- 'laws.FnBigPut16': WHATEVER THE INPUT: true; the input reads as it did. -/
def fnBigPut16Spec : ChangeSpec := { name := "fnBigPut16", fn := fun _ => fun
  | [d1, d2] => { results := [.lit (.bool true)], args := [d1, d2] }
  | _ => none }
def fnBigPut16Row : OpenClaim := { program := "ytfignfkmfhbkcaa", sum := "01bb387c59e3524d98619f8fefd1fe70683983aade18cedb84b38f4e8723607d", func := "loop.example/lib-hexvarint/laws.FnBigPut16", spec := "fnBigPut16", named := ["encoding/binary.BigEndian"], apart := false }
def FnBigPut16Said : Prop := fnBigPut16Row.holds Try.pinned (OpenSpec.ofChange fnBigPut16Spec)

/-- ITS FALSE NEIGHBOUR: 'it returns false'. Refute it at one input. -/
def fnBigPut16Wrong : ChangeSpec := { name := "fnBigPut16", fn := fun _ => fun
  | [d1, d2] => { results := [.lit (.bool false)], args := [d1, d2] }
  | _ => none }
def FnBigPut16WrongFalsely : Prop := fnBigPut16Row.holds Try.pinned (OpenSpec.ofChange fnBigPut16Wrong)

/-- 'laws.FnLittlePut16': WHATEVER THE INPUT: true; the input reads as it did. -/
def fnLittlePut16Spec : ChangeSpec := { name := "fnLittlePut16", fn := fun _ => fun
  | [d1, d2] => { results := [.lit (.bool true)], args := [d1, d2] }
  | _ => none }
def fnLittlePut16Row : OpenClaim := { program := "ytfignfkmfhbkcaa", sum := "01bb387c59e3524d98619f8fefd1fe70683983aade18cedb84b38f4e8723607d", func := "loop.example/lib-hexvarint/laws.FnLittlePut16", spec := "fnLittlePut16", named := ["encoding/binary.LittleEndian"], apart := false }
def FnLittlePut16Said : Prop := fnLittlePut16Row.holds Try.pinned (OpenSpec.ofChange fnLittlePut16Spec)

/-- ITS FALSE NEIGHBOUR: 'it returns false'. Refute it at one input. -/
def fnLittlePut16Wrong : ChangeSpec := { name := "fnLittlePut16", fn := fun _ => fun
  | [d1, d2] => { results := [.lit (.bool false)], args := [d1, d2] }
  | _ => none }
def FnLittlePut16WrongFalsely : Prop := fnLittlePut16Row.holds Try.pinned (OpenSpec.ofChange fnLittlePut16Wrong)

/-- 'laws.FnBigPut32': WHATEVER THE INPUT: true; the input reads as it did. -/
def fnBigPut32Spec : ChangeSpec := { name := "fnBigPut32", fn := fun _ => fun
  | [d1, d2] => { results := [.lit (.bool true)], args := [d1, d2] }
  | _ => none }
def fnBigPut32Row : OpenClaim := { program := "ytfignfkmfhbkcaa", sum := "01bb387c59e3524d98619f8fefd1fe70683983aade18cedb84b38f4e8723607d", func := "loop.example/lib-hexvarint/laws.FnBigPut32", spec := "fnBigPut32", named := ["encoding/binary.BigEndian"], apart := false }
def FnBigPut32Said : Prop := fnBigPut32Row.holds Try.pinned (OpenSpec.ofChange fnBigPut32Spec)

/-- ITS FALSE NEIGHBOUR: 'it returns false'. Refute it at one input. -/
def fnBigPut32Wrong : ChangeSpec := { name := "fnBigPut32", fn := fun _ => fun
  | [d1, d2] => { results := [.lit (.bool false)], args := [d1, d2] }
  | _ => none }
def FnBigPut32WrongFalsely : Prop := fnBigPut32Row.holds Try.pinned (OpenSpec.ofChange fnBigPut32Wrong)

/-- 'laws.FnLittlePut32': WHATEVER THE INPUT: true; the input reads as it did. -/
def fnLittlePut32Spec : ChangeSpec := { name := "fnLittlePut32", fn := fun _ => fun
  | [d1, d2] => { results := [.lit (.bool true)], args := [d1, d2] }
  | _ => none }
def fnLittlePut32Row : OpenClaim := { program := "ytfignfkmfhbkcaa", sum := "01bb387c59e3524d98619f8fefd1fe70683983aade18cedb84b38f4e8723607d", func := "loop.example/lib-hexvarint/laws.FnLittlePut32", spec := "fnLittlePut32", named := ["encoding/binary.LittleEndian"], apart := false }
def FnLittlePut32Said : Prop := fnLittlePut32Row.holds Try.pinned (OpenSpec.ofChange fnLittlePut32Spec)

/-- ITS FALSE NEIGHBOUR: 'it returns false'. Refute it at one input. -/
def fnLittlePut32Wrong : ChangeSpec := { name := "fnLittlePut32", fn := fun _ => fun
  | [d1, d2] => { results := [.lit (.bool false)], args := [d1, d2] }
  | _ => none }
def FnLittlePut32WrongFalsely : Prop := fnLittlePut32Row.holds Try.pinned (OpenSpec.ofChange fnLittlePut32Wrong)

/-- 'laws.FnEndsTurned16': WHATEVER THE INPUT: true; the input reads as it did. -/
def fnEndsTurned16Spec : ChangeSpec := { name := "fnEndsTurned16", fn := fun _ => fun
  | [d1, d2] => { results := [.lit (.bool true)], args := [d1, d2] }
  | _ => none }
def fnEndsTurned16Row : OpenClaim := { program := "ytfignfkmfhbkcaa", sum := "01bb387c59e3524d98619f8fefd1fe70683983aade18cedb84b38f4e8723607d", func := "loop.example/lib-hexvarint/laws.FnEndsTurned16", spec := "fnEndsTurned16", named := ["encoding/binary.BigEndian", "encoding/binary.LittleEndian"], apart := false }
def FnEndsTurned16Said : Prop := fnEndsTurned16Row.holds Try.pinned (OpenSpec.ofChange fnEndsTurned16Spec)

/-- ITS FALSE NEIGHBOUR: 'it returns false'. Refute it at one input. -/
def fnEndsTurned16Wrong : ChangeSpec := { name := "fnEndsTurned16", fn := fun _ => fun
  | [d1, d2] => { results := [.lit (.bool false)], args := [d1, d2] }
  | _ => none }
def FnEndsTurned16WrongFalsely : Prop := fnEndsTurned16Row.holds Try.pinned (OpenSpec.ofChange fnEndsTurned16Wrong)

/-- 'laws.FnEndsTurned32': WHATEVER THE INPUT: true; the input reads as it did. -/
def fnEndsTurned32Spec : ChangeSpec := { name := "fnEndsTurned32", fn := fun _ => fun
  | [d1, d2] => { results := [.lit (.bool true)], args := [d1, d2] }
  | _ => none }
def fnEndsTurned32Row : OpenClaim := { program := "ytfignfkmfhbkcaa", sum := "01bb387c59e3524d98619f8fefd1fe70683983aade18cedb84b38f4e8723607d", func := "loop.example/lib-hexvarint/laws.FnEndsTurned32", spec := "fnEndsTurned32", named := ["encoding/binary.BigEndian", "encoding/binary.LittleEndian"], apart := false }
def FnEndsTurned32Said : Prop := fnEndsTurned32Row.holds Try.pinned (OpenSpec.ofChange fnEndsTurned32Spec)

/-- ITS FALSE NEIGHBOUR: 'it returns false'. Refute it at one input. -/
def fnEndsTurned32Wrong : ChangeSpec := { name := "fnEndsTurned32", fn := fun _ => fun
  | [d1, d2] => { results := [.lit (.bool false)], args := [d1, d2] }
  | _ => none }
def FnEndsTurned32WrongFalsely : Prop := fnEndsTurned32Row.holds Try.pinned (OpenSpec.ofChange fnEndsTurned32Wrong)

/- THE SECOND FORM. 'bulk': how many values and letters a reading holds, each counted each time it is reached (what is shared counts as often as it is met; a slice's spare places count too). A statement '..UptoSaid' is the law's where the arguments, and the package variables that the reading takes, are together of bulk at most 1048576: NARROWER than '..Said'. Prove '..Said' where nothing that the law and all that it calls make is longer than what came in: it says more and counts as full. Else prove '..UptoSaid'. A law counts once. -/
mutual
def uptoBulk {H : Type} : DataW H → Nat
  | .lit (.string bytes) => bytes.length + 1
  | .lit _ => 1
  | .nil => 1
  | .ptr d => uptoBulk d + 1
  | .slice elems spare => uptoBulkAll elems + uptoBulkAll spare + 1
  | .agg parts => uptoBulkAll parts + 1
  | .iface _ d => uptoBulk d + 1
  | .map entries => uptoBulkEntries entries + 1
  | .held _ => 1
def uptoBulkAll {H : Type} : List (DataW H) → Nat
  | [] => 0
  | d :: r => uptoBulk d + uptoBulkAll r
def uptoBulkEntries {H : Type} : List (Lit × DataW H) → Nat
  | [] => 0
  | x :: r => uptoBulkEntry x + uptoBulkEntries r
def uptoBulkEntry {H : Type} : Lit × DataW H → Nat
  | (.string bytes, d) => bytes.length + uptoBulk d + 1
  | (_, d) => uptoBulk d + 1
 end
def uptoSmall : (H : Type) → List (DataW H) → Bool := fun _ ds => decide (uptoBulkAll ds ≤ 1048576)
def OpenSpec.upto (s : _root_.Go.ChangeSpec) : _root_.Go.OpenSpec := { _root_.Go.OpenSpec.ofChange s with cond := some uptoSmall }

/-- 'laws.FnBigOrder64', WHERE WHAT IT READS IS OF BULK AT MOST 1048576: true; the input reads as it did. -/
def fnBigOrder64UptoRow : OpenClaim := { program := "ytfignfkmfhbkcaa", sum := "01bb387c59e3524d98619f8fefd1fe70683983aade18cedb84b38f4e8723607d", func := "loop.example/lib-hexvarint/laws.FnBigOrder64", spec := "fnBigOrder64", named := ["encoding/binary.BigEndian"], apart := false, narrowed := true }
def FnBigOrder64UptoSaid : Prop := fnBigOrder64UptoRow.holds Try.pinned (OpenSpec.upto fnBigOrder64Spec)

/-- 'laws.FnBigXor64', WHERE WHAT IT READS IS OF BULK AT MOST 1048576: true; the input reads as it did. -/
def fnBigXor64UptoRow : OpenClaim := { program := "ytfignfkmfhbkcaa", sum := "01bb387c59e3524d98619f8fefd1fe70683983aade18cedb84b38f4e8723607d", func := "loop.example/lib-hexvarint/laws.FnBigXor64", spec := "fnBigXor64", named := ["encoding/binary.BigEndian"], apart := false, narrowed := true }
def FnBigXor64UptoSaid : Prop := fnBigXor64UptoRow.holds Try.pinned (OpenSpec.upto fnBigXor64Spec)

/-- 'laws.FnLittleXor64', WHERE WHAT IT READS IS OF BULK AT MOST 1048576: true; the input reads as it did. -/
def fnLittleXor64UptoRow : OpenClaim := { program := "ytfignfkmfhbkcaa", sum := "01bb387c59e3524d98619f8fefd1fe70683983aade18cedb84b38f4e8723607d", func := "loop.example/lib-hexvarint/laws.FnLittleXor64", spec := "fnLittleXor64", named := ["encoding/binary.LittleEndian"], apart := false, narrowed := true }
def FnLittleXor64UptoSaid : Prop := fnLittleXor64UptoRow.holds Try.pinned (OpenSpec.upto fnLittleXor64Spec)

/-- 'laws.FnLittleBack32', WHERE WHAT IT READS IS OF BULK AT MOST 1048576: true; the input reads as it did. -/
def fnLittleBack32UptoRow : OpenClaim := { program := "ytfignfkmfhbkcaa", sum := "01bb387c59e3524d98619f8fefd1fe70683983aade18cedb84b38f4e8723607d", func := "loop.example/lib-hexvarint/laws.FnLittleBack32", spec := "fnLittleBack32", named := ["encoding/binary.LittleEndian"], apart := false, narrowed := true }
def FnLittleBack32UptoSaid : Prop := fnLittleBack32UptoRow.holds Try.pinned (OpenSpec.upto fnLittleBack32Spec)

/-- 'laws.FnBigHalves32', WHERE WHAT IT READS IS OF BULK AT MOST 1048576: true; the input reads as it did. -/
def fnBigHalves32UptoRow : OpenClaim := { program := "ytfignfkmfhbkcaa", sum := "01bb387c59e3524d98619f8fefd1fe70683983aade18cedb84b38f4e8723607d", func := "loop.example/lib-hexvarint/laws.FnBigHalves32", spec := "fnBigHalves32", named := ["encoding/binary.BigEndian"], apart := false, narrowed := true }
def FnBigHalves32UptoSaid : Prop := fnBigHalves32UptoRow.holds Try.pinned (OpenSpec.upto fnBigHalves32Spec)

/-- 'laws.FnLittleHalves32', WHERE WHAT IT READS IS OF BULK AT MOST 1048576: true; the input reads as it did. -/
def fnLittleHalves32UptoRow : OpenClaim := { program := "ytfignfkmfhbkcaa", sum := "01bb387c59e3524d98619f8fefd1fe70683983aade18cedb84b38f4e8723607d", func := "loop.example/lib-hexvarint/laws.FnLittleHalves32", spec := "fnLittleHalves32", named := ["encoding/binary.LittleEndian"], apart := false, narrowed := true }
def FnLittleHalves32UptoSaid : Prop := fnLittleHalves32UptoRow.holds Try.pinned (OpenSpec.upto fnLittleHalves32Spec)

/-- 'laws.FnBigPut16', WHERE WHAT IT READS IS OF BULK AT MOST 1048576: true; the input reads as it did. -/
def fnBigPut16UptoRow : OpenClaim := { program := "ytfignfkmfhbkcaa", sum := "01bb387c59e3524d98619f8fefd1fe70683983aade18cedb84b38f4e8723607d", func := "loop.example/lib-hexvarint/laws.FnBigPut16", spec := "fnBigPut16", named := ["encoding/binary.BigEndian"], apart := false, narrowed := true }
def FnBigPut16UptoSaid : Prop := fnBigPut16UptoRow.holds Try.pinned (OpenSpec.upto fnBigPut16Spec)

/-- 'laws.FnLittlePut16', WHERE WHAT IT READS IS OF BULK AT MOST 1048576: true; the input reads as it did. -/
def fnLittlePut16UptoRow : OpenClaim := { program := "ytfignfkmfhbkcaa", sum := "01bb387c59e3524d98619f8fefd1fe70683983aade18cedb84b38f4e8723607d", func := "loop.example/lib-hexvarint/laws.FnLittlePut16", spec := "fnLittlePut16", named := ["encoding/binary.LittleEndian"], apart := false, narrowed := true }
def FnLittlePut16UptoSaid : Prop := fnLittlePut16UptoRow.holds Try.pinned (OpenSpec.upto fnLittlePut16Spec)

/-- 'laws.FnBigPut32', WHERE WHAT IT READS IS OF BULK AT MOST 1048576: true; the input reads as it did. -/
def fnBigPut32UptoRow : OpenClaim := { program := "ytfignfkmfhbkcaa", sum := "01bb387c59e3524d98619f8fefd1fe70683983aade18cedb84b38f4e8723607d", func := "loop.example/lib-hexvarint/laws.FnBigPut32", spec := "fnBigPut32", named := ["encoding/binary.BigEndian"], apart := false, narrowed := true }
def FnBigPut32UptoSaid : Prop := fnBigPut32UptoRow.holds Try.pinned (OpenSpec.upto fnBigPut32Spec)

/-- 'laws.FnLittlePut32', WHERE WHAT IT READS IS OF BULK AT MOST 1048576: true; the input reads as it did. -/
def fnLittlePut32UptoRow : OpenClaim := { program := "ytfignfkmfhbkcaa", sum := "01bb387c59e3524d98619f8fefd1fe70683983aade18cedb84b38f4e8723607d", func := "loop.example/lib-hexvarint/laws.FnLittlePut32", spec := "fnLittlePut32", named := ["encoding/binary.LittleEndian"], apart := false, narrowed := true }
def FnLittlePut32UptoSaid : Prop := fnLittlePut32UptoRow.holds Try.pinned (OpenSpec.upto fnLittlePut32Spec)

/-- 'laws.FnEndsTurned16', WHERE WHAT IT READS IS OF BULK AT MOST 1048576: true; the input reads as it did. -/
def fnEndsTurned16UptoRow : OpenClaim := { program := "ytfignfkmfhbkcaa", sum := "01bb387c59e3524d98619f8fefd1fe70683983aade18cedb84b38f4e8723607d", func := "loop.example/lib-hexvarint/laws.FnEndsTurned16", spec := "fnEndsTurned16", named := ["encoding/binary.BigEndian", "encoding/binary.LittleEndian"], apart := false, narrowed := true }
def FnEndsTurned16UptoSaid : Prop := fnEndsTurned16UptoRow.holds Try.pinned (OpenSpec.upto fnEndsTurned16Spec)

/-- 'laws.FnEndsTurned32', WHERE WHAT IT READS IS OF BULK AT MOST 1048576: true; the input reads as it did. -/
def fnEndsTurned32UptoRow : OpenClaim := { program := "ytfignfkmfhbkcaa", sum := "01bb387c59e3524d98619f8fefd1fe70683983aade18cedb84b38f4e8723607d", func := "loop.example/lib-hexvarint/laws.FnEndsTurned32", spec := "fnEndsTurned32", named := ["encoding/binary.BigEndian", "encoding/binary.LittleEndian"], apart := false, narrowed := true }
def FnEndsTurned32UptoSaid : Prop := fnEndsTurned32UptoRow.holds Try.pinned (OpenSpec.upto fnEndsTurned32Spec)

end Rows
end Go.Proofs.Ytfignfkmfhbkcaa
