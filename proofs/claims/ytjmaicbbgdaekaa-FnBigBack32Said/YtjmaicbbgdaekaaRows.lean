/-
  No cell of these rows narrows 'for every input' (looked for: loops, veiled, ifaces, maps, wideKeys, modest, calm, conditions, laid).
  DERIVED. THE GIVEN ROWS OF THIS SEAT. 12 by the template 'for every input the law returns true; each argument reads behind the call as it read before'; 0 by the template 'total and deterministic' (their statements: YtjmaicbbgdaekaaTotals.lean).
  GIVEN WITH THE SEED: the statements are not yours to turn. If you find one false, say at which input.
  Laid BY PROGRAM, IN A SANDBOX (cutbox-rows.mjs): the forced cells as the released guide's own fill.sh prints them over the translation 857dd988287aed50… (all of the seat's roots in one cut). By AI agents, Wed Nov 11 2026. No macro, syntax, notation, axiom, sorry.
-/
import Derived.Test.YtjmaicbbgdaekaaChecked
import GoSem.Claim
import GoSem.ClaimJoined
import GoSem.ClaimMapViews
import Derived.JoinedTies
import Derived.KernelRfl
namespace Go.Proofs.Ytjmaicbbgdaekaa
/- THE CELL 'sum', in the pinned program and in every row, IS THE sha256 OF THE DUMP (.gsa) THAT YtjmaicbbgdaekaaProg.lean LOADS. Nothing in Lean hashes anything: it is a label: what it is worth is what the hold of that sum in a sandbox is worth. -/
noncomputable def Try.pinned : Pinned := { name := "ytjmaicbbgdaekaa", sum := "857dd988287aed5065fe78855ca717e137e2e173a92232167e31e6ba70abb69a", checked := Try.checked }
namespace Rows
def none {H : Type} : Left H := { results := [], args := [] }

/-- 'laws.FnExactPutBigUint16': WHATEVER THE INPUT: true; the input reads as it did. -/
def fnExactPutBigUint16Spec : ChangeSpec := { name := "fnExactPutBigUint16", fn := fun _ => fun
  | [d1, d2] => { results := [.lit (.bool true)], args := [d1, d2] }
  | _ => none }
def fnExactPutBigUint16Row : OpenClaim := { program := "ytjmaicbbgdaekaa", sum := "857dd988287aed5065fe78855ca717e137e2e173a92232167e31e6ba70abb69a", func := "loop.example/lib-hexvarint/laws.FnExactPutBigUint16", spec := "fnExactPutBigUint16", named := ["encoding/binary.BigEndian"], apart := false }
def FnExactPutBigUint16Said : Prop := fnExactPutBigUint16Row.holds Try.pinned (OpenSpec.ofChange fnExactPutBigUint16Spec)

/-- ITS FALSE NEIGHBOUR: 'it returns false'. Refute it at one input. -/
def fnExactPutBigUint16Wrong : ChangeSpec := { name := "fnExactPutBigUint16", fn := fun _ => fun
  | [d1, d2] => { results := [.lit (.bool false)], args := [d1, d2] }
  | _ => none }
def FnExactPutBigUint16WrongFalsely : Prop := fnExactPutBigUint16Row.holds Try.pinned (OpenSpec.ofChange fnExactPutBigUint16Wrong)

/-- 'laws.FnExactPutLittleUint16': WHATEVER THE INPUT: true; the input reads as it did. -/
def fnExactPutLittleUint16Spec : ChangeSpec := { name := "fnExactPutLittleUint16", fn := fun _ => fun
  | [d1, d2] => { results := [.lit (.bool true)], args := [d1, d2] }
  | _ => none }
def fnExactPutLittleUint16Row : OpenClaim := { program := "ytjmaicbbgdaekaa", sum := "857dd988287aed5065fe78855ca717e137e2e173a92232167e31e6ba70abb69a", func := "loop.example/lib-hexvarint/laws.FnExactPutLittleUint16", spec := "fnExactPutLittleUint16", named := ["encoding/binary.LittleEndian"], apart := false }
def FnExactPutLittleUint16Said : Prop := fnExactPutLittleUint16Row.holds Try.pinned (OpenSpec.ofChange fnExactPutLittleUint16Spec)

/-- ITS FALSE NEIGHBOUR: 'it returns false'. Refute it at one input. -/
def fnExactPutLittleUint16Wrong : ChangeSpec := { name := "fnExactPutLittleUint16", fn := fun _ => fun
  | [d1, d2] => { results := [.lit (.bool false)], args := [d1, d2] }
  | _ => none }
def FnExactPutLittleUint16WrongFalsely : Prop := fnExactPutLittleUint16Row.holds Try.pinned (OpenSpec.ofChange fnExactPutLittleUint16Wrong)

/-- 'laws.FnBigOrder32': WHATEVER THE INPUT: true; the input reads as it did. -/
def fnBigOrder32Spec : ChangeSpec := { name := "fnBigOrder32", fn := fun _ => fun
  | [d1, d2] => { results := [.lit (.bool true)], args := [d1, d2] }
  | _ => none }
def fnBigOrder32Row : OpenClaim := { program := "ytjmaicbbgdaekaa", sum := "857dd988287aed5065fe78855ca717e137e2e173a92232167e31e6ba70abb69a", func := "loop.example/lib-hexvarint/laws.FnBigOrder32", spec := "fnBigOrder32", named := ["encoding/binary.BigEndian"], apart := false }
def FnBigOrder32Said : Prop := fnBigOrder32Row.holds Try.pinned (OpenSpec.ofChange fnBigOrder32Spec)

/-- ITS FALSE NEIGHBOUR: 'it returns false'. Refute it at one input. -/
def fnBigOrder32Wrong : ChangeSpec := { name := "fnBigOrder32", fn := fun _ => fun
  | [d1, d2] => { results := [.lit (.bool false)], args := [d1, d2] }
  | _ => none }
def FnBigOrder32WrongFalsely : Prop := fnBigOrder32Row.holds Try.pinned (OpenSpec.ofChange fnBigOrder32Wrong)

/-- 'laws.FnBigXor32': WHATEVER THE INPUT: true; the input reads as it did. -/
def fnBigXor32Spec : ChangeSpec := { name := "fnBigXor32", fn := fun _ => fun
  | [d1, d2] => { results := [.lit (.bool true)], args := [d1, d2] }
  | _ => none }
def fnBigXor32Row : OpenClaim := { program := "ytjmaicbbgdaekaa", sum := "857dd988287aed5065fe78855ca717e137e2e173a92232167e31e6ba70abb69a", func := "loop.example/lib-hexvarint/laws.FnBigXor32", spec := "fnBigXor32", named := ["encoding/binary.BigEndian"], apart := false }
def FnBigXor32Said : Prop := fnBigXor32Row.holds Try.pinned (OpenSpec.ofChange fnBigXor32Spec)

/-- ITS FALSE NEIGHBOUR: 'it returns false'. Refute it at one input. -/
def fnBigXor32Wrong : ChangeSpec := { name := "fnBigXor32", fn := fun _ => fun
  | [d1, d2] => { results := [.lit (.bool false)], args := [d1, d2] }
  | _ => none }
def FnBigXor32WrongFalsely : Prop := fnBigXor32Row.holds Try.pinned (OpenSpec.ofChange fnBigXor32Wrong)

/-- 'laws.FnExactAppendBigUint32': WHATEVER THE INPUT: true; the input reads as it did. -/
def fnExactAppendBigUint32Spec : ChangeSpec := { name := "fnExactAppendBigUint32", fn := fun _ => fun
  | [d1, d2] => { results := [.lit (.bool true)], args := [d1, d2] }
  | _ => none }
def fnExactAppendBigUint32Row : OpenClaim := { program := "ytjmaicbbgdaekaa", sum := "857dd988287aed5065fe78855ca717e137e2e173a92232167e31e6ba70abb69a", func := "loop.example/lib-hexvarint/laws.FnExactAppendBigUint32", spec := "fnExactAppendBigUint32", named := ["encoding/binary.BigEndian"], apart := false }
def FnExactAppendBigUint32Said : Prop := fnExactAppendBigUint32Row.holds Try.pinned (OpenSpec.ofChange fnExactAppendBigUint32Spec)

/-- ITS FALSE NEIGHBOUR: 'it returns false'. Refute it at one input. -/
def fnExactAppendBigUint32Wrong : ChangeSpec := { name := "fnExactAppendBigUint32", fn := fun _ => fun
  | [d1, d2] => { results := [.lit (.bool false)], args := [d1, d2] }
  | _ => none }
def FnExactAppendBigUint32WrongFalsely : Prop := fnExactAppendBigUint32Row.holds Try.pinned (OpenSpec.ofChange fnExactAppendBigUint32Wrong)

/-- 'laws.FnExactAppendLittleUint32': WHATEVER THE INPUT: true; the input reads as it did. -/
def fnExactAppendLittleUint32Spec : ChangeSpec := { name := "fnExactAppendLittleUint32", fn := fun _ => fun
  | [d1, d2] => { results := [.lit (.bool true)], args := [d1, d2] }
  | _ => none }
def fnExactAppendLittleUint32Row : OpenClaim := { program := "ytjmaicbbgdaekaa", sum := "857dd988287aed5065fe78855ca717e137e2e173a92232167e31e6ba70abb69a", func := "loop.example/lib-hexvarint/laws.FnExactAppendLittleUint32", spec := "fnExactAppendLittleUint32", named := ["encoding/binary.LittleEndian"], apart := false }
def FnExactAppendLittleUint32Said : Prop := fnExactAppendLittleUint32Row.holds Try.pinned (OpenSpec.ofChange fnExactAppendLittleUint32Spec)

/-- ITS FALSE NEIGHBOUR: 'it returns false'. Refute it at one input. -/
def fnExactAppendLittleUint32Wrong : ChangeSpec := { name := "fnExactAppendLittleUint32", fn := fun _ => fun
  | [d1, d2] => { results := [.lit (.bool false)], args := [d1, d2] }
  | _ => none }
def FnExactAppendLittleUint32WrongFalsely : Prop := fnExactAppendLittleUint32Row.holds Try.pinned (OpenSpec.ofChange fnExactAppendLittleUint32Wrong)

/-- 'laws.FnLittleXor32': WHATEVER THE INPUT: true; the input reads as it did. -/
def fnLittleXor32Spec : ChangeSpec := { name := "fnLittleXor32", fn := fun _ => fun
  | [d1, d2] => { results := [.lit (.bool true)], args := [d1, d2] }
  | _ => none }
def fnLittleXor32Row : OpenClaim := { program := "ytjmaicbbgdaekaa", sum := "857dd988287aed5065fe78855ca717e137e2e173a92232167e31e6ba70abb69a", func := "loop.example/lib-hexvarint/laws.FnLittleXor32", spec := "fnLittleXor32", named := ["encoding/binary.LittleEndian"], apart := false }
def FnLittleXor32Said : Prop := fnLittleXor32Row.holds Try.pinned (OpenSpec.ofChange fnLittleXor32Spec)

/-- ITS FALSE NEIGHBOUR: 'it returns false'. Refute it at one input. -/
def fnLittleXor32Wrong : ChangeSpec := { name := "fnLittleXor32", fn := fun _ => fun
  | [d1, d2] => { results := [.lit (.bool false)], args := [d1, d2] }
  | _ => none }
def FnLittleXor32WrongFalsely : Prop := fnLittleXor32Row.holds Try.pinned (OpenSpec.ofChange fnLittleXor32Wrong)

/-- 'laws.FnExactPutBigUint32': WHATEVER THE INPUT: true; the input reads as it did. -/
def fnExactPutBigUint32Spec : ChangeSpec := { name := "fnExactPutBigUint32", fn := fun _ => fun
  | [d1, d2] => { results := [.lit (.bool true)], args := [d1, d2] }
  | _ => none }
def fnExactPutBigUint32Row : OpenClaim := { program := "ytjmaicbbgdaekaa", sum := "857dd988287aed5065fe78855ca717e137e2e173a92232167e31e6ba70abb69a", func := "loop.example/lib-hexvarint/laws.FnExactPutBigUint32", spec := "fnExactPutBigUint32", named := ["encoding/binary.BigEndian"], apart := false }
def FnExactPutBigUint32Said : Prop := fnExactPutBigUint32Row.holds Try.pinned (OpenSpec.ofChange fnExactPutBigUint32Spec)

/-- ITS FALSE NEIGHBOUR: 'it returns false'. Refute it at one input. -/
def fnExactPutBigUint32Wrong : ChangeSpec := { name := "fnExactPutBigUint32", fn := fun _ => fun
  | [d1, d2] => { results := [.lit (.bool false)], args := [d1, d2] }
  | _ => none }
def FnExactPutBigUint32WrongFalsely : Prop := fnExactPutBigUint32Row.holds Try.pinned (OpenSpec.ofChange fnExactPutBigUint32Wrong)

/-- 'laws.FnExactPutLittleUint32': WHATEVER THE INPUT: true; the input reads as it did. -/
def fnExactPutLittleUint32Spec : ChangeSpec := { name := "fnExactPutLittleUint32", fn := fun _ => fun
  | [d1, d2] => { results := [.lit (.bool true)], args := [d1, d2] }
  | _ => none }
def fnExactPutLittleUint32Row : OpenClaim := { program := "ytjmaicbbgdaekaa", sum := "857dd988287aed5065fe78855ca717e137e2e173a92232167e31e6ba70abb69a", func := "loop.example/lib-hexvarint/laws.FnExactPutLittleUint32", spec := "fnExactPutLittleUint32", named := ["encoding/binary.LittleEndian"], apart := false }
def FnExactPutLittleUint32Said : Prop := fnExactPutLittleUint32Row.holds Try.pinned (OpenSpec.ofChange fnExactPutLittleUint32Spec)

/-- ITS FALSE NEIGHBOUR: 'it returns false'. Refute it at one input. -/
def fnExactPutLittleUint32Wrong : ChangeSpec := { name := "fnExactPutLittleUint32", fn := fun _ => fun
  | [d1, d2] => { results := [.lit (.bool false)], args := [d1, d2] }
  | _ => none }
def FnExactPutLittleUint32WrongFalsely : Prop := fnExactPutLittleUint32Row.holds Try.pinned (OpenSpec.ofChange fnExactPutLittleUint32Wrong)

/-- 'laws.FnBigBack16': WHATEVER THE INPUT: true; the input reads as it did. -/
def fnBigBack16Spec : ChangeSpec := { name := "fnBigBack16", fn := fun _ => fun
  | [d1, d2, d3] => { results := [.lit (.bool true)], args := [d1, d2, d3] }
  | _ => none }
def fnBigBack16Row : OpenClaim := { program := "ytjmaicbbgdaekaa", sum := "857dd988287aed5065fe78855ca717e137e2e173a92232167e31e6ba70abb69a", func := "loop.example/lib-hexvarint/laws.FnBigBack16", spec := "fnBigBack16", named := ["encoding/binary.BigEndian"], apart := false }
def FnBigBack16Said : Prop := fnBigBack16Row.holds Try.pinned (OpenSpec.ofChange fnBigBack16Spec)

/-- ITS FALSE NEIGHBOUR: 'it returns false'. Refute it at one input. -/
def fnBigBack16Wrong : ChangeSpec := { name := "fnBigBack16", fn := fun _ => fun
  | [d1, d2, d3] => { results := [.lit (.bool false)], args := [d1, d2, d3] }
  | _ => none }
def FnBigBack16WrongFalsely : Prop := fnBigBack16Row.holds Try.pinned (OpenSpec.ofChange fnBigBack16Wrong)

/-- 'laws.FnLittleBack16': WHATEVER THE INPUT: true; the input reads as it did. -/
def fnLittleBack16Spec : ChangeSpec := { name := "fnLittleBack16", fn := fun _ => fun
  | [d1, d2, d3] => { results := [.lit (.bool true)], args := [d1, d2, d3] }
  | _ => none }
def fnLittleBack16Row : OpenClaim := { program := "ytjmaicbbgdaekaa", sum := "857dd988287aed5065fe78855ca717e137e2e173a92232167e31e6ba70abb69a", func := "loop.example/lib-hexvarint/laws.FnLittleBack16", spec := "fnLittleBack16", named := ["encoding/binary.LittleEndian"], apart := false }
def FnLittleBack16Said : Prop := fnLittleBack16Row.holds Try.pinned (OpenSpec.ofChange fnLittleBack16Spec)

/-- ITS FALSE NEIGHBOUR: 'it returns false'. Refute it at one input. -/
def fnLittleBack16Wrong : ChangeSpec := { name := "fnLittleBack16", fn := fun _ => fun
  | [d1, d2, d3] => { results := [.lit (.bool false)], args := [d1, d2, d3] }
  | _ => none }
def FnLittleBack16WrongFalsely : Prop := fnLittleBack16Row.holds Try.pinned (OpenSpec.ofChange fnLittleBack16Wrong)

/-- 'laws.FnBigBack32': WHATEVER THE INPUT: true; the input reads as it did. -/
def fnBigBack32Spec : ChangeSpec := { name := "fnBigBack32", fn := fun _ => fun
  | [d1, d2, d3] => { results := [.lit (.bool true)], args := [d1, d2, d3] }
  | _ => none }
def fnBigBack32Row : OpenClaim := { program := "ytjmaicbbgdaekaa", sum := "857dd988287aed5065fe78855ca717e137e2e173a92232167e31e6ba70abb69a", func := "loop.example/lib-hexvarint/laws.FnBigBack32", spec := "fnBigBack32", named := ["encoding/binary.BigEndian"], apart := false }
def FnBigBack32Said : Prop := fnBigBack32Row.holds Try.pinned (OpenSpec.ofChange fnBigBack32Spec)

/-- ITS FALSE NEIGHBOUR: 'it returns false'. Refute it at one input. -/
def fnBigBack32Wrong : ChangeSpec := { name := "fnBigBack32", fn := fun _ => fun
  | [d1, d2, d3] => { results := [.lit (.bool false)], args := [d1, d2, d3] }
  | _ => none }
def FnBigBack32WrongFalsely : Prop := fnBigBack32Row.holds Try.pinned (OpenSpec.ofChange fnBigBack32Wrong)

/- THE SECOND FORM. 'bulk': how many values and letters a reading holds, each counted each time it is reached (what is shared counts as often as it is met; a slice's spare places count too). A statement '..UptoSaid' is the law's where the arguments, and the package variables that the reading takes, are together of bulk at most 1048576: NARROWER than '..Said'. Prove '..Said' where nothing that the law and all that it calls make is longer than what came in: it says more and counts as full. Else prove '..UptoSaid'. A law counts once. -/
mutual
def uptoBulk {H : Type} : DataW H → Nat
  | .lit (.string bytes) => bytes.length + 1
  | .lit _ => 1
  | .nil => 1
  | .ptr d => uptoBulk d + 1
  | .slice elems spare => uptoBulkAll elems + uptoBulkAll spare + 1
  | .agg parts => uptoBulkAll parts + 1
  | .iface _ d => uptoBulk d + 1
  | .map entries => uptoBulkEntries entries + 1
  | .held _ => 1
def uptoBulkAll {H : Type} : List (DataW H) → Nat
  | [] => 0
  | d :: r => uptoBulk d + uptoBulkAll r
def uptoBulkEntries {H : Type} : List (Lit × DataW H) → Nat
  | [] => 0
  | x :: r => uptoBulkEntry x + uptoBulkEntries r
def uptoBulkEntry {H : Type} : Lit × DataW H → Nat
  | (.string bytes, d) => bytes.length + uptoBulk d + 1
  | (_, d) => uptoBulk d + 1
 end
def uptoSmall : (H : Type) → List (DataW H) → Bool := fun _ ds => decide (uptoBulkAll ds ≤ 1048576)
def OpenSpec.upto (s : _root_.Go.ChangeSpec) : _root_.Go.OpenSpec := { _root_.Go.OpenSpec.ofChange s with cond := some uptoSmall }

/-- 'laws.FnExactPutBigUint16', WHERE WHAT IT READS IS OF BULK AT MOST 1048576: true; the input reads as it did. -/
def fnExactPutBigUint16UptoRow : OpenClaim := { program := "ytjmaicbbgdaekaa", sum := "857dd988287aed5065fe78855ca717e137e2e173a92232167e31e6ba70abb69a", func := "loop.example/lib-hexvarint/laws.FnExactPutBigUint16", spec := "fnExactPutBigUint16", named := ["encoding/binary.BigEndian"], apart := false, narrowed := true }
def FnExactPutBigUint16UptoSaid : Prop := fnExactPutBigUint16UptoRow.holds Try.pinned (OpenSpec.upto fnExactPutBigUint16Spec)

/-- 'laws.FnExactPutLittleUint16', WHERE WHAT IT READS IS OF BULK AT MOST 1048576: true; the input reads as it did. -/
def fnExactPutLittleUint16UptoRow : OpenClaim := { program := "ytjmaicbbgdaekaa", sum := "857dd988287aed5065fe78855ca717e137e2e173a92232167e31e6ba70abb69a", func := "loop.example/lib-hexvarint/laws.FnExactPutLittleUint16", spec := "fnExactPutLittleUint16", named := ["encoding/binary.LittleEndian"], apart := false, narrowed := true }
def FnExactPutLittleUint16UptoSaid : Prop := fnExactPutLittleUint16UptoRow.holds Try.pinned (OpenSpec.upto fnExactPutLittleUint16Spec)

/-- 'laws.FnBigOrder32', WHERE WHAT IT READS IS OF BULK AT MOST 1048576: true; the input reads as it did. -/
def fnBigOrder32UptoRow : OpenClaim := { program := "ytjmaicbbgdaekaa", sum := "857dd988287aed5065fe78855ca717e137e2e173a92232167e31e6ba70abb69a", func := "loop.example/lib-hexvarint/laws.FnBigOrder32", spec := "fnBigOrder32", named := ["encoding/binary.BigEndian"], apart := false, narrowed := true }
def FnBigOrder32UptoSaid : Prop := fnBigOrder32UptoRow.holds Try.pinned (OpenSpec.upto fnBigOrder32Spec)

/-- 'laws.FnBigXor32', WHERE WHAT IT READS IS OF BULK AT MOST 1048576: true; the input reads as it did. -/
def fnBigXor32UptoRow : OpenClaim := { program := "ytjmaicbbgdaekaa", sum := "857dd988287aed5065fe78855ca717e137e2e173a92232167e31e6ba70abb69a", func := "loop.example/lib-hexvarint/laws.FnBigXor32", spec := "fnBigXor32", named := ["encoding/binary.BigEndian"], apart := false, narrowed := true }
def FnBigXor32UptoSaid : Prop := fnBigXor32UptoRow.holds Try.pinned (OpenSpec.upto fnBigXor32Spec)

/-- 'laws.FnExactAppendBigUint32', WHERE WHAT IT READS IS OF BULK AT MOST 1048576: true; the input reads as it did. -/
def fnExactAppendBigUint32UptoRow : OpenClaim := { program := "ytjmaicbbgdaekaa", sum := "857dd988287aed5065fe78855ca717e137e2e173a92232167e31e6ba70abb69a", func := "loop.example/lib-hexvarint/laws.FnExactAppendBigUint32", spec := "fnExactAppendBigUint32", named := ["encoding/binary.BigEndian"], apart := false, narrowed := true }
def FnExactAppendBigUint32UptoSaid : Prop := fnExactAppendBigUint32UptoRow.holds Try.pinned (OpenSpec.upto fnExactAppendBigUint32Spec)

/-- 'laws.FnExactAppendLittleUint32', WHERE WHAT IT READS IS OF BULK AT MOST 1048576: true; the input reads as it did. -/
def fnExactAppendLittleUint32UptoRow : OpenClaim := { program := "ytjmaicbbgdaekaa", sum := "857dd988287aed5065fe78855ca717e137e2e173a92232167e31e6ba70abb69a", func := "loop.example/lib-hexvarint/laws.FnExactAppendLittleUint32", spec := "fnExactAppendLittleUint32", named := ["encoding/binary.LittleEndian"], apart := false, narrowed := true }
def FnExactAppendLittleUint32UptoSaid : Prop := fnExactAppendLittleUint32UptoRow.holds Try.pinned (OpenSpec.upto fnExactAppendLittleUint32Spec)

/-- 'laws.FnLittleXor32', WHERE WHAT IT READS IS OF BULK AT MOST 1048576: true; the input reads as it did. -/
def fnLittleXor32UptoRow : OpenClaim := { program := "ytjmaicbbgdaekaa", sum := "857dd988287aed5065fe78855ca717e137e2e173a92232167e31e6ba70abb69a", func := "loop.example/lib-hexvarint/laws.FnLittleXor32", spec := "fnLittleXor32", named := ["encoding/binary.LittleEndian"], apart := false, narrowed := true }
def FnLittleXor32UptoSaid : Prop := fnLittleXor32UptoRow.holds Try.pinned (OpenSpec.upto fnLittleXor32Spec)

/-- 'laws.FnExactPutBigUint32', WHERE WHAT IT READS IS OF BULK AT MOST 1048576: true; the input reads as it did. -/
def fnExactPutBigUint32UptoRow : OpenClaim := { program := "ytjmaicbbgdaekaa", sum := "857dd988287aed5065fe78855ca717e137e2e173a92232167e31e6ba70abb69a", func := "loop.example/lib-hexvarint/laws.FnExactPutBigUint32", spec := "fnExactPutBigUint32", named := ["encoding/binary.BigEndian"], apart := false, narrowed := true }
def FnExactPutBigUint32UptoSaid : Prop := fnExactPutBigUint32UptoRow.holds Try.pinned (OpenSpec.upto fnExactPutBigUint32Spec)

/-- 'laws.FnExactPutLittleUint32', WHERE WHAT IT READS IS OF BULK AT MOST 1048576: true; the input reads as it did. -/
def fnExactPutLittleUint32UptoRow : OpenClaim := { program := "ytjmaicbbgdaekaa", sum := "857dd988287aed5065fe78855ca717e137e2e173a92232167e31e6ba70abb69a", func := "loop.example/lib-hexvarint/laws.FnExactPutLittleUint32", spec := "fnExactPutLittleUint32", named := ["encoding/binary.LittleEndian"], apart := false, narrowed := true }
def FnExactPutLittleUint32UptoSaid : Prop := fnExactPutLittleUint32UptoRow.holds Try.pinned (OpenSpec.upto fnExactPutLittleUint32Spec)

/-- 'laws.FnBigBack16', WHERE WHAT IT READS IS OF BULK AT MOST 1048576: true; the input reads as it did. -/
def fnBigBack16UptoRow : OpenClaim := { program := "ytjmaicbbgdaekaa", sum := "857dd988287aed5065fe78855ca717e137e2e173a92232167e31e6ba70abb69a", func := "loop.example/lib-hexvarint/laws.FnBigBack16", spec := "fnBigBack16", named := ["encoding/binary.BigEndian"], apart := false, narrowed := true }
def FnBigBack16UptoSaid : Prop := fnBigBack16UptoRow.holds Try.pinned (OpenSpec.upto fnBigBack16Spec)

/-- 'laws.FnLittleBack16', WHERE WHAT IT READS IS OF BULK AT MOST 1048576: true; the input reads as it did. -/
def fnLittleBack16UptoRow : OpenClaim := { program := "ytjmaicbbgdaekaa", sum := "857dd988287aed5065fe78855ca717e137e2e173a92232167e31e6ba70abb69a", func := "loop.example/lib-hexvarint/laws.FnLittleBack16", spec := "fnLittleBack16", named := ["encoding/binary.LittleEndian"], apart := false, narrowed := true }
def FnLittleBack16UptoSaid : Prop := fnLittleBack16UptoRow.holds Try.pinned (OpenSpec.upto fnLittleBack16Spec)

/-- 'laws.FnBigBack32', WHERE WHAT IT READS IS OF BULK AT MOST 1048576: true; the input reads as it did. -/
def fnBigBack32UptoRow : OpenClaim := { program := "ytjmaicbbgdaekaa", sum := "857dd988287aed5065fe78855ca717e137e2e173a92232167e31e6ba70abb69a", func := "loop.example/lib-hexvarint/laws.FnBigBack32", spec := "fnBigBack32", named := ["encoding/binary.BigEndian"], apart := false, narrowed := true }
def FnBigBack32UptoSaid : Prop := fnBigBack32UptoRow.holds Try.pinned (OpenSpec.upto fnBigBack32Spec)

end Rows
end Go.Proofs.Ytjmaicbbgdaekaa
