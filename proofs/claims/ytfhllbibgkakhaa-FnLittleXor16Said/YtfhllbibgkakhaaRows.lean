/-
  No cell of these rows narrows 'for every input' (looked for: loops, veiled, ifaces, maps, wideKeys, modest, calm, conditions, laid).
  DERIVED. THE GIVEN ROWS OF THIS SEAT. 12 by the template 'for every input the law returns true; each argument reads behind the call as it read before'; 0 by the template 'total and deterministic' (their statements: YtfhllbibgkakhaaTotals.lean).
  GIVEN WITH THE SEED: the statements are not yours to turn. If you find one false, say at which input.
  Laid BY PROGRAM, IN A SANDBOX (cutbox-rows.mjs): the forced cells as the released guide's own fill.sh prints them over the translation dc4afda0e30802d5… (all of the seat's roots in one cut). By AI agents, Wed Nov 11 2026. No macro, syntax, notation, axiom, sorry.
-/
import Derived.Test.YtfhllbibgkakhaaChecked
import GoSem.Claim
import GoSem.ClaimJoined
import GoSem.ClaimMapViews
import Derived.JoinedTies
import Derived.KernelRfl
namespace Go.Proofs.Ytfhllbibgkakhaa
/- THE CELL 'sum', in the pinned program and in every row, IS THE sha256 OF THE DUMP (.gsa) THAT YtfhllbibgkakhaaProg.lean LOADS. Nothing in Lean hashes anything: it is a label: what it is worth is what the hold of that sum in a sandbox is worth. -/
noncomputable def Try.pinned : Pinned := { name := "ytfhllbibgkakhaa", sum := "dc4afda0e30802d5c11210a8c48c2ce89537374240b33bdb39f0f92dd5e147c3", checked := Try.checked }
namespace Rows
def none {H : Type} : Left H := { results := [], args := [] }

/-- 'laws.FnExactBigUint16': WHATEVER THE INPUT: true; the input reads as it did. -/
def fnExactBigUint16Spec : ChangeSpec := { name := "fnExactBigUint16", fn := fun _ => fun
  | [d] => { results := [.lit (.bool true)], args := [d] }
  | _ => none }
def fnExactBigUint16Row : OpenClaim := { program := "ytfhllbibgkakhaa", sum := "dc4afda0e30802d5c11210a8c48c2ce89537374240b33bdb39f0f92dd5e147c3", func := "loop.example/lib-hexvarint/laws.FnExactBigUint16", spec := "fnExactBigUint16", named := ["encoding/binary.BigEndian"], apart := false }
def FnExactBigUint16Said : Prop := fnExactBigUint16Row.holds Try.pinned (OpenSpec.ofChange fnExactBigUint16Spec)

/-- ITS FALSE NEIGHBOUR: 'it returns false'. Refute it at one input. -/
def fnExactBigUint16Wrong : ChangeSpec := { name := "fnExactBigUint16", fn := fun _ => fun
  | [d] => { results := [.lit (.bool false)], args := [d] }
  | _ => none }
def FnExactBigUint16WrongFalsely : Prop := fnExactBigUint16Row.holds Try.pinned (OpenSpec.ofChange fnExactBigUint16Wrong)

/-- 'laws.FnExactBigUint32': WHATEVER THE INPUT: true; the input reads as it did. -/
def fnExactBigUint32Spec : ChangeSpec := { name := "fnExactBigUint32", fn := fun _ => fun
  | [d] => { results := [.lit (.bool true)], args := [d] }
  | _ => none }
def fnExactBigUint32Row : OpenClaim := { program := "ytfhllbibgkakhaa", sum := "dc4afda0e30802d5c11210a8c48c2ce89537374240b33bdb39f0f92dd5e147c3", func := "loop.example/lib-hexvarint/laws.FnExactBigUint32", spec := "fnExactBigUint32", named := ["encoding/binary.BigEndian"], apart := false }
def FnExactBigUint32Said : Prop := fnExactBigUint32Row.holds Try.pinned (OpenSpec.ofChange fnExactBigUint32Spec)

/-- ITS FALSE NEIGHBOUR: 'it returns false'. Refute it at one input. -/
def fnExactBigUint32Wrong : ChangeSpec := { name := "fnExactBigUint32", fn := fun _ => fun
  | [d] => { results := [.lit (.bool false)], args := [d] }
  | _ => none }
def FnExactBigUint32WrongFalsely : Prop := fnExactBigUint32Row.holds Try.pinned (OpenSpec.ofChange fnExactBigUint32Wrong)

/-- 'laws.FnExactLittleUint16': WHATEVER THE INPUT: true; the input reads as it did. -/
def fnExactLittleUint16Spec : ChangeSpec := { name := "fnExactLittleUint16", fn := fun _ => fun
  | [d] => { results := [.lit (.bool true)], args := [d] }
  | _ => none }
def fnExactLittleUint16Row : OpenClaim := { program := "ytfhllbibgkakhaa", sum := "dc4afda0e30802d5c11210a8c48c2ce89537374240b33bdb39f0f92dd5e147c3", func := "loop.example/lib-hexvarint/laws.FnExactLittleUint16", spec := "fnExactLittleUint16", named := ["encoding/binary.LittleEndian"], apart := false }
def FnExactLittleUint16Said : Prop := fnExactLittleUint16Row.holds Try.pinned (OpenSpec.ofChange fnExactLittleUint16Spec)

/-- ITS FALSE NEIGHBOUR: 'it returns false'. Refute it at one input. -/
def fnExactLittleUint16Wrong : ChangeSpec := { name := "fnExactLittleUint16", fn := fun _ => fun
  | [d] => { results := [.lit (.bool false)], args := [d] }
  | _ => none }
def FnExactLittleUint16WrongFalsely : Prop := fnExactLittleUint16Row.holds Try.pinned (OpenSpec.ofChange fnExactLittleUint16Wrong)

/-- 'laws.FnExactLittleUint32': WHATEVER THE INPUT: true; the input reads as it did. -/
def fnExactLittleUint32Spec : ChangeSpec := { name := "fnExactLittleUint32", fn := fun _ => fun
  | [d] => { results := [.lit (.bool true)], args := [d] }
  | _ => none }
def fnExactLittleUint32Row : OpenClaim := { program := "ytfhllbibgkakhaa", sum := "dc4afda0e30802d5c11210a8c48c2ce89537374240b33bdb39f0f92dd5e147c3", func := "loop.example/lib-hexvarint/laws.FnExactLittleUint32", spec := "fnExactLittleUint32", named := ["encoding/binary.LittleEndian"], apart := false }
def FnExactLittleUint32Said : Prop := fnExactLittleUint32Row.holds Try.pinned (OpenSpec.ofChange fnExactLittleUint32Spec)

/-- ITS FALSE NEIGHBOUR: 'it returns false'. Refute it at one input. -/
def fnExactLittleUint32Wrong : ChangeSpec := { name := "fnExactLittleUint32", fn := fun _ => fun
  | [d] => { results := [.lit (.bool false)], args := [d] }
  | _ => none }
def FnExactLittleUint32WrongFalsely : Prop := fnExactLittleUint32Row.holds Try.pinned (OpenSpec.ofChange fnExactLittleUint32Wrong)

/-- 'laws.FnExactBigUint64': WHATEVER THE INPUT: true; the input reads as it did. -/
def fnExactBigUint64Spec : ChangeSpec := { name := "fnExactBigUint64", fn := fun _ => fun
  | [d] => { results := [.lit (.bool true)], args := [d] }
  | _ => none }
def fnExactBigUint64Row : OpenClaim := { program := "ytfhllbibgkakhaa", sum := "dc4afda0e30802d5c11210a8c48c2ce89537374240b33bdb39f0f92dd5e147c3", func := "loop.example/lib-hexvarint/laws.FnExactBigUint64", spec := "fnExactBigUint64", named := ["encoding/binary.BigEndian"], apart := false }
def FnExactBigUint64Said : Prop := fnExactBigUint64Row.holds Try.pinned (OpenSpec.ofChange fnExactBigUint64Spec)

/-- ITS FALSE NEIGHBOUR: 'it returns false'. Refute it at one input. -/
def fnExactBigUint64Wrong : ChangeSpec := { name := "fnExactBigUint64", fn := fun _ => fun
  | [d] => { results := [.lit (.bool false)], args := [d] }
  | _ => none }
def FnExactBigUint64WrongFalsely : Prop := fnExactBigUint64Row.holds Try.pinned (OpenSpec.ofChange fnExactBigUint64Wrong)

/-- 'laws.FnExactLittleUint64': WHATEVER THE INPUT: true; the input reads as it did. -/
def fnExactLittleUint64Spec : ChangeSpec := { name := "fnExactLittleUint64", fn := fun _ => fun
  | [d] => { results := [.lit (.bool true)], args := [d] }
  | _ => none }
def fnExactLittleUint64Row : OpenClaim := { program := "ytfhllbibgkakhaa", sum := "dc4afda0e30802d5c11210a8c48c2ce89537374240b33bdb39f0f92dd5e147c3", func := "loop.example/lib-hexvarint/laws.FnExactLittleUint64", spec := "fnExactLittleUint64", named := ["encoding/binary.LittleEndian"], apart := false }
def FnExactLittleUint64Said : Prop := fnExactLittleUint64Row.holds Try.pinned (OpenSpec.ofChange fnExactLittleUint64Spec)

/-- ITS FALSE NEIGHBOUR: 'it returns false'. Refute it at one input. -/
def fnExactLittleUint64Wrong : ChangeSpec := { name := "fnExactLittleUint64", fn := fun _ => fun
  | [d] => { results := [.lit (.bool false)], args := [d] }
  | _ => none }
def FnExactLittleUint64WrongFalsely : Prop := fnExactLittleUint64Row.holds Try.pinned (OpenSpec.ofChange fnExactLittleUint64Wrong)

/-- 'laws.FnBigOrder16': WHATEVER THE INPUT: true; the input reads as it did. -/
def fnBigOrder16Spec : ChangeSpec := { name := "fnBigOrder16", fn := fun _ => fun
  | [d1, d2] => { results := [.lit (.bool true)], args := [d1, d2] }
  | _ => none }
def fnBigOrder16Row : OpenClaim := { program := "ytfhllbibgkakhaa", sum := "dc4afda0e30802d5c11210a8c48c2ce89537374240b33bdb39f0f92dd5e147c3", func := "loop.example/lib-hexvarint/laws.FnBigOrder16", spec := "fnBigOrder16", named := ["encoding/binary.BigEndian"], apart := false }
def FnBigOrder16Said : Prop := fnBigOrder16Row.holds Try.pinned (OpenSpec.ofChange fnBigOrder16Spec)

/-- ITS FALSE NEIGHBOUR: 'it returns false'. Refute it at one input. -/
def fnBigOrder16Wrong : ChangeSpec := { name := "fnBigOrder16", fn := fun _ => fun
  | [d1, d2] => { results := [.lit (.bool false)], args := [d1, d2] }
  | _ => none }
def FnBigOrder16WrongFalsely : Prop := fnBigOrder16Row.holds Try.pinned (OpenSpec.ofChange fnBigOrder16Wrong)

/-- 'laws.FnBigXor16': WHATEVER THE INPUT: true; the input reads as it did. -/
def fnBigXor16Spec : ChangeSpec := { name := "fnBigXor16", fn := fun _ => fun
  | [d1, d2] => { results := [.lit (.bool true)], args := [d1, d2] }
  | _ => none }
def fnBigXor16Row : OpenClaim := { program := "ytfhllbibgkakhaa", sum := "dc4afda0e30802d5c11210a8c48c2ce89537374240b33bdb39f0f92dd5e147c3", func := "loop.example/lib-hexvarint/laws.FnBigXor16", spec := "fnBigXor16", named := ["encoding/binary.BigEndian"], apart := false }
def FnBigXor16Said : Prop := fnBigXor16Row.holds Try.pinned (OpenSpec.ofChange fnBigXor16Spec)

/-- ITS FALSE NEIGHBOUR: 'it returns false'. Refute it at one input. -/
def fnBigXor16Wrong : ChangeSpec := { name := "fnBigXor16", fn := fun _ => fun
  | [d1, d2] => { results := [.lit (.bool false)], args := [d1, d2] }
  | _ => none }
def FnBigXor16WrongFalsely : Prop := fnBigXor16Row.holds Try.pinned (OpenSpec.ofChange fnBigXor16Wrong)

/-- 'laws.FnExactAppendBigUint16': WHATEVER THE INPUT: true; the input reads as it did. -/
def fnExactAppendBigUint16Spec : ChangeSpec := { name := "fnExactAppendBigUint16", fn := fun _ => fun
  | [d1, d2] => { results := [.lit (.bool true)], args := [d1, d2] }
  | _ => none }
def fnExactAppendBigUint16Row : OpenClaim := { program := "ytfhllbibgkakhaa", sum := "dc4afda0e30802d5c11210a8c48c2ce89537374240b33bdb39f0f92dd5e147c3", func := "loop.example/lib-hexvarint/laws.FnExactAppendBigUint16", spec := "fnExactAppendBigUint16", named := ["encoding/binary.BigEndian"], apart := false }
def FnExactAppendBigUint16Said : Prop := fnExactAppendBigUint16Row.holds Try.pinned (OpenSpec.ofChange fnExactAppendBigUint16Spec)

/-- ITS FALSE NEIGHBOUR: 'it returns false'. Refute it at one input. -/
def fnExactAppendBigUint16Wrong : ChangeSpec := { name := "fnExactAppendBigUint16", fn := fun _ => fun
  | [d1, d2] => { results := [.lit (.bool false)], args := [d1, d2] }
  | _ => none }
def FnExactAppendBigUint16WrongFalsely : Prop := fnExactAppendBigUint16Row.holds Try.pinned (OpenSpec.ofChange fnExactAppendBigUint16Wrong)

/-- 'laws.FnExactAppendLittleUint16': WHATEVER THE INPUT: true; the input reads as it did. -/
def fnExactAppendLittleUint16Spec : ChangeSpec := { name := "fnExactAppendLittleUint16", fn := fun _ => fun
  | [d1, d2] => { results := [.lit (.bool true)], args := [d1, d2] }
  | _ => none }
def fnExactAppendLittleUint16Row : OpenClaim := { program := "ytfhllbibgkakhaa", sum := "dc4afda0e30802d5c11210a8c48c2ce89537374240b33bdb39f0f92dd5e147c3", func := "loop.example/lib-hexvarint/laws.FnExactAppendLittleUint16", spec := "fnExactAppendLittleUint16", named := ["encoding/binary.LittleEndian"], apart := false }
def FnExactAppendLittleUint16Said : Prop := fnExactAppendLittleUint16Row.holds Try.pinned (OpenSpec.ofChange fnExactAppendLittleUint16Spec)

/-- ITS FALSE NEIGHBOUR: 'it returns false'. Refute it at one input. -/
def fnExactAppendLittleUint16Wrong : ChangeSpec := { name := "fnExactAppendLittleUint16", fn := fun _ => fun
  | [d1, d2] => { results := [.lit (.bool false)], args := [d1, d2] }
  | _ => none }
def FnExactAppendLittleUint16WrongFalsely : Prop := fnExactAppendLittleUint16Row.holds Try.pinned (OpenSpec.ofChange fnExactAppendLittleUint16Wrong)

/-- 'laws.FnVarintBack': WHATEVER THE INPUT: true; the input reads as it did. -/
def fnVarintBackSpec : ChangeSpec := { name := "fnVarintBack", fn := fun _ => fun
  | [d1, d2] => { results := [.lit (.bool true)], args := [d1, d2] }
  | _ => none }
def fnVarintBackRow : OpenClaim := { program := "ytfhllbibgkakhaa", sum := "dc4afda0e30802d5c11210a8c48c2ce89537374240b33bdb39f0f92dd5e147c3", func := "loop.example/lib-hexvarint/laws.FnVarintBack", spec := "fnVarintBack", apart := false }
def FnVarintBackSaid : Prop := fnVarintBackRow.holds Try.pinned (OpenSpec.ofChange fnVarintBackSpec)

/-- ITS FALSE NEIGHBOUR: 'it returns false'. Refute it at one input. -/
def fnVarintBackWrong : ChangeSpec := { name := "fnVarintBack", fn := fun _ => fun
  | [d1, d2] => { results := [.lit (.bool false)], args := [d1, d2] }
  | _ => none }
def FnVarintBackWrongFalsely : Prop := fnVarintBackRow.holds Try.pinned (OpenSpec.ofChange fnVarintBackWrong)

/-- 'laws.FnLittleXor16': WHATEVER THE INPUT: true; the input reads as it did. -/
def fnLittleXor16Spec : ChangeSpec := { name := "fnLittleXor16", fn := fun _ => fun
  | [d1, d2] => { results := [.lit (.bool true)], args := [d1, d2] }
  | _ => none }
def fnLittleXor16Row : OpenClaim := { program := "ytfhllbibgkakhaa", sum := "dc4afda0e30802d5c11210a8c48c2ce89537374240b33bdb39f0f92dd5e147c3", func := "loop.example/lib-hexvarint/laws.FnLittleXor16", spec := "fnLittleXor16", named := ["encoding/binary.LittleEndian"], apart := false }
def FnLittleXor16Said : Prop := fnLittleXor16Row.holds Try.pinned (OpenSpec.ofChange fnLittleXor16Spec)

/-- ITS FALSE NEIGHBOUR: 'it returns false'. Refute it at one input. -/
def fnLittleXor16Wrong : ChangeSpec := { name := "fnLittleXor16", fn := fun _ => fun
  | [d1, d2] => { results := [.lit (.bool false)], args := [d1, d2] }
  | _ => none }
def FnLittleXor16WrongFalsely : Prop := fnLittleXor16Row.holds Try.pinned (OpenSpec.ofChange fnLittleXor16Wrong)

/- THE SECOND FORM. 'bulk': how many values and letters a reading holds, each counted each time it is reached (what is shared counts as often as it is met; a slice's spare places count too). A statement '..UptoSaid' is the law's where the arguments, and the package variables that the reading takes, are together of bulk at most 1048576: NARROWER than '..Said'. Prove '..Said' where nothing that the law and all that it calls make is longer than what came in: it says more and counts as full. Else prove '..UptoSaid'. A law counts once. -/
mutual
def uptoBulk {H : Type} : DataW H → Nat
  | .lit (.string bytes) => bytes.length + 1
  | .lit _ => 1
  | .nil => 1
  | .ptr d => uptoBulk d + 1
  | .slice elems spare => uptoBulkAll elems + uptoBulkAll spare + 1
  | .agg parts => uptoBulkAll parts + 1
  | .iface _ d => uptoBulk d + 1
  | .map entries => uptoBulkEntries entries + 1
  | .held _ => 1
def uptoBulkAll {H : Type} : List (DataW H) → Nat
  | [] => 0
  | d :: r => uptoBulk d + uptoBulkAll r
def uptoBulkEntries {H : Type} : List (Lit × DataW H) → Nat
  | [] => 0
  | x :: r => uptoBulkEntry x + uptoBulkEntries r
def uptoBulkEntry {H : Type} : Lit × DataW H → Nat
  | (.string bytes, d) => bytes.length + uptoBulk d + 1
  | (_, d) => uptoBulk d + 1
 end
def uptoSmall : (H : Type) → List (DataW H) → Bool := fun _ ds => decide (uptoBulkAll ds ≤ 1048576)
def OpenSpec.upto (s : _root_.Go.ChangeSpec) : _root_.Go.OpenSpec := { _root_.Go.OpenSpec.ofChange s with cond := some uptoSmall }

/-- 'laws.FnExactBigUint16', WHERE WHAT IT READS IS OF BULK AT MOST 1048576: true; the input reads as it did. -/
def fnExactBigUint16UptoRow : OpenClaim := { program := "ytfhllbibgkakhaa", sum := "dc4afda0e30802d5c11210a8c48c2ce89537374240b33bdb39f0f92dd5e147c3", func := "loop.example/lib-hexvarint/laws.FnExactBigUint16", spec := "fnExactBigUint16", named := ["encoding/binary.BigEndian"], apart := false, narrowed := true }
def FnExactBigUint16UptoSaid : Prop := fnExactBigUint16UptoRow.holds Try.pinned (OpenSpec.upto fnExactBigUint16Spec)

/-- 'laws.FnExactBigUint32', WHERE WHAT IT READS IS OF BULK AT MOST 1048576: true; the input reads as it did. -/
def fnExactBigUint32UptoRow : OpenClaim := { program := "ytfhllbibgkakhaa", sum := "dc4afda0e30802d5c11210a8c48c2ce89537374240b33bdb39f0f92dd5e147c3", func := "loop.example/lib-hexvarint/laws.FnExactBigUint32", spec := "fnExactBigUint32", named := ["encoding/binary.BigEndian"], apart := false, narrowed := true }
def FnExactBigUint32UptoSaid : Prop := fnExactBigUint32UptoRow.holds Try.pinned (OpenSpec.upto fnExactBigUint32Spec)

/-- 'laws.FnExactLittleUint16', WHERE WHAT IT READS IS OF BULK AT MOST 1048576: true; the input reads as it did. -/
def fnExactLittleUint16UptoRow : OpenClaim := { program := "ytfhllbibgkakhaa", sum := "dc4afda0e30802d5c11210a8c48c2ce89537374240b33bdb39f0f92dd5e147c3", func := "loop.example/lib-hexvarint/laws.FnExactLittleUint16", spec := "fnExactLittleUint16", named := ["encoding/binary.LittleEndian"], apart := false, narrowed := true }
def FnExactLittleUint16UptoSaid : Prop := fnExactLittleUint16UptoRow.holds Try.pinned (OpenSpec.upto fnExactLittleUint16Spec)

/-- 'laws.FnExactLittleUint32', WHERE WHAT IT READS IS OF BULK AT MOST 1048576: true; the input reads as it did. -/
def fnExactLittleUint32UptoRow : OpenClaim := { program := "ytfhllbibgkakhaa", sum := "dc4afda0e30802d5c11210a8c48c2ce89537374240b33bdb39f0f92dd5e147c3", func := "loop.example/lib-hexvarint/laws.FnExactLittleUint32", spec := "fnExactLittleUint32", named := ["encoding/binary.LittleEndian"], apart := false, narrowed := true }
def FnExactLittleUint32UptoSaid : Prop := fnExactLittleUint32UptoRow.holds Try.pinned (OpenSpec.upto fnExactLittleUint32Spec)

/-- 'laws.FnExactBigUint64', WHERE WHAT IT READS IS OF BULK AT MOST 1048576: true; the input reads as it did. -/
def fnExactBigUint64UptoRow : OpenClaim := { program := "ytfhllbibgkakhaa", sum := "dc4afda0e30802d5c11210a8c48c2ce89537374240b33bdb39f0f92dd5e147c3", func := "loop.example/lib-hexvarint/laws.FnExactBigUint64", spec := "fnExactBigUint64", named := ["encoding/binary.BigEndian"], apart := false, narrowed := true }
def FnExactBigUint64UptoSaid : Prop := fnExactBigUint64UptoRow.holds Try.pinned (OpenSpec.upto fnExactBigUint64Spec)

/-- 'laws.FnExactLittleUint64', WHERE WHAT IT READS IS OF BULK AT MOST 1048576: true; the input reads as it did. -/
def fnExactLittleUint64UptoRow : OpenClaim := { program := "ytfhllbibgkakhaa", sum := "dc4afda0e30802d5c11210a8c48c2ce89537374240b33bdb39f0f92dd5e147c3", func := "loop.example/lib-hexvarint/laws.FnExactLittleUint64", spec := "fnExactLittleUint64", named := ["encoding/binary.LittleEndian"], apart := false, narrowed := true }
def FnExactLittleUint64UptoSaid : Prop := fnExactLittleUint64UptoRow.holds Try.pinned (OpenSpec.upto fnExactLittleUint64Spec)

/-- 'laws.FnBigOrder16', WHERE WHAT IT READS IS OF BULK AT MOST 1048576: true; the input reads as it did. -/
def fnBigOrder16UptoRow : OpenClaim := { program := "ytfhllbibgkakhaa", sum := "dc4afda0e30802d5c11210a8c48c2ce89537374240b33bdb39f0f92dd5e147c3", func := "loop.example/lib-hexvarint/laws.FnBigOrder16", spec := "fnBigOrder16", named := ["encoding/binary.BigEndian"], apart := false, narrowed := true }
def FnBigOrder16UptoSaid : Prop := fnBigOrder16UptoRow.holds Try.pinned (OpenSpec.upto fnBigOrder16Spec)

/-- 'laws.FnBigXor16', WHERE WHAT IT READS IS OF BULK AT MOST 1048576: true; the input reads as it did. -/
def fnBigXor16UptoRow : OpenClaim := { program := "ytfhllbibgkakhaa", sum := "dc4afda0e30802d5c11210a8c48c2ce89537374240b33bdb39f0f92dd5e147c3", func := "loop.example/lib-hexvarint/laws.FnBigXor16", spec := "fnBigXor16", named := ["encoding/binary.BigEndian"], apart := false, narrowed := true }
def FnBigXor16UptoSaid : Prop := fnBigXor16UptoRow.holds Try.pinned (OpenSpec.upto fnBigXor16Spec)

/-- 'laws.FnExactAppendBigUint16', WHERE WHAT IT READS IS OF BULK AT MOST 1048576: true; the input reads as it did. -/
def fnExactAppendBigUint16UptoRow : OpenClaim := { program := "ytfhllbibgkakhaa", sum := "dc4afda0e30802d5c11210a8c48c2ce89537374240b33bdb39f0f92dd5e147c3", func := "loop.example/lib-hexvarint/laws.FnExactAppendBigUint16", spec := "fnExactAppendBigUint16", named := ["encoding/binary.BigEndian"], apart := false, narrowed := true }
def FnExactAppendBigUint16UptoSaid : Prop := fnExactAppendBigUint16UptoRow.holds Try.pinned (OpenSpec.upto fnExactAppendBigUint16Spec)

/-- 'laws.FnExactAppendLittleUint16', WHERE WHAT IT READS IS OF BULK AT MOST 1048576: true; the input reads as it did. -/
def fnExactAppendLittleUint16UptoRow : OpenClaim := { program := "ytfhllbibgkakhaa", sum := "dc4afda0e30802d5c11210a8c48c2ce89537374240b33bdb39f0f92dd5e147c3", func := "loop.example/lib-hexvarint/laws.FnExactAppendLittleUint16", spec := "fnExactAppendLittleUint16", named := ["encoding/binary.LittleEndian"], apart := false, narrowed := true }
def FnExactAppendLittleUint16UptoSaid : Prop := fnExactAppendLittleUint16UptoRow.holds Try.pinned (OpenSpec.upto fnExactAppendLittleUint16Spec)

/-- 'laws.FnVarintBack', WHERE WHAT IT READS IS OF BULK AT MOST 1048576: true; the input reads as it did. -/
def fnVarintBackUptoRow : OpenClaim := { program := "ytfhllbibgkakhaa", sum := "dc4afda0e30802d5c11210a8c48c2ce89537374240b33bdb39f0f92dd5e147c3", func := "loop.example/lib-hexvarint/laws.FnVarintBack", spec := "fnVarintBack", apart := false, narrowed := true }
def FnVarintBackUptoSaid : Prop := fnVarintBackUptoRow.holds Try.pinned (OpenSpec.upto fnVarintBackSpec)

/-- 'laws.FnLittleXor16', WHERE WHAT IT READS IS OF BULK AT MOST 1048576: true; the input reads as it did. -/
def fnLittleXor16UptoRow : OpenClaim := { program := "ytfhllbibgkakhaa", sum := "dc4afda0e30802d5c11210a8c48c2ce89537374240b33bdb39f0f92dd5e147c3", func := "loop.example/lib-hexvarint/laws.FnLittleXor16", spec := "fnLittleXor16", named := ["encoding/binary.LittleEndian"], apart := false, narrowed := true }
def FnLittleXor16UptoSaid : Prop := fnLittleXor16UptoRow.holds Try.pinned (OpenSpec.upto fnLittleXor16Spec)

end Rows
end Go.Proofs.Ytfhllbibgkakhaa
