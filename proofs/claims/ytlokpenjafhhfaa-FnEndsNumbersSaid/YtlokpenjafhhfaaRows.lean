/-
  No cell of these rows narrows 'for every input' (looked for: loops, veiled, ifaces, maps, wideKeys, modest, calm, conditions, laid).
  DERIVED. THE GIVEN ROWS OF THIS SEAT. 2 by the template 'for every input the law returns true; each argument reads behind the call as it read before'; 0 by the template 'total and deterministic' (their statements: YtlokpenjafhhfaaTotals.lean).
  GIVEN WITH THE SEED: the statements are not yours to turn. If you find one false, say at which input.
  Laid BY PROGRAM, IN A SANDBOX (cutbox-rows.mjs): the forced cells as the released guide's own fill.sh prints them over the translation 339cca19cefb4e1c… (all of the seat's roots in one cut). By AI agents, Wed Nov 11 2026. No macro, syntax, notation, axiom, sorry.
-/
import Derived.Test.YtlokpenjafhhfaaChecked
import GoSem.Claim
import GoSem.ClaimJoined
import GoSem.ClaimMapViews
import Derived.JoinedTies
import Derived.KernelRfl
namespace Go.Proofs.Ytlokpenjafhhfaa
/- THE CELL 'sum', in the pinned program and in every row, IS THE sha256 OF THE DUMP (.gsa) THAT YtlokpenjafhhfaaProg.lean LOADS. Nothing in Lean hashes anything: it is a label: what it is worth is what the hold of that sum in a sandbox is worth. -/
noncomputable def Try.pinned : Pinned := { name := "ytlokpenjafhhfaa", sum := "339cca19cefb4e1ca03e9187e571bb5507ec77373a6624abb07d0f49ff1c4259", checked := Try.checked }
namespace Rows
def none {H : Type} : Left H := { results := [], args := [] }

/-- 'laws.FnBigHex': WHATEVER THE INPUT: true; the input reads as it did. -/
def fnBigHexSpec : ChangeSpec := { name := "fnBigHex", fn := fun _ => fun
  | [d] => { results := [.lit (.bool true)], args := [d] }
  | _ => none }
def fnBigHexRow : OpenClaim := { program := "ytlokpenjafhhfaa", sum := "339cca19cefb4e1ca03e9187e571bb5507ec77373a6624abb07d0f49ff1c4259", func := "loop.example/lib-hexvarint/laws.FnBigHex", spec := "fnBigHex", named := ["encoding/binary.BigEndian"], apart := false }
def FnBigHexSaid : Prop := fnBigHexRow.holds Try.pinned (OpenSpec.ofChange fnBigHexSpec)

/-- ITS FALSE NEIGHBOUR: 'it returns false'. Refute it at one input. -/
def fnBigHexWrong : ChangeSpec := { name := "fnBigHex", fn := fun _ => fun
  | [d] => { results := [.lit (.bool false)], args := [d] }
  | _ => none }
def FnBigHexWrongFalsely : Prop := fnBigHexRow.holds Try.pinned (OpenSpec.ofChange fnBigHexWrong)

/-- 'laws.FnEndsNumbers': WHATEVER THE INPUT: true; the input reads as it did. -/
def fnEndsNumbersSpec : ChangeSpec := { name := "fnEndsNumbers", fn := fun _ => fun
  | [d] => { results := [.lit (.bool true)], args := [d] }
  | _ => none }
def fnEndsNumbersRow : OpenClaim := { program := "ytlokpenjafhhfaa", sum := "339cca19cefb4e1ca03e9187e571bb5507ec77373a6624abb07d0f49ff1c4259", func := "loop.example/lib-hexvarint/laws.FnEndsNumbers", spec := "fnEndsNumbers", named := ["encoding/binary.BigEndian", "encoding/binary.LittleEndian"], apart := false }
def FnEndsNumbersSaid : Prop := fnEndsNumbersRow.holds Try.pinned (OpenSpec.ofChange fnEndsNumbersSpec)

/-- ITS FALSE NEIGHBOUR: 'it returns false'. Refute it at one input. -/
def fnEndsNumbersWrong : ChangeSpec := { name := "fnEndsNumbers", fn := fun _ => fun
  | [d] => { results := [.lit (.bool false)], args := [d] }
  | _ => none }
def FnEndsNumbersWrongFalsely : Prop := fnEndsNumbersRow.holds Try.pinned (OpenSpec.ofChange fnEndsNumbersWrong)

/- THE SECOND FORM. 'bulk': how many values and letters a reading holds, each counted each time it is reached (what is shared counts as often as it is met; a slice's spare places count too). A statement '..UptoSaid' is the law's where the arguments, and the package variables that the reading takes, are together of bulk at most 1048576: NARROWER than '..Said'. Prove '..Said' where nothing that the law and all that it calls make is longer than what came in: it says more and counts as full. Else prove '..UptoSaid'. A law counts once. -/
mutual
def uptoBulk {H : Type} : DataW H → Nat
  | .lit (.string bytes) => bytes.length + 1
  | .lit _ => 1
  | .nil => 1
  | .ptr d => uptoBulk d + 1
  | .slice elems spare => uptoBulkAll elems + uptoBulkAll spare + 1
  | .agg parts => uptoBulkAll parts + 1
  | .iface _ d => uptoBulk d + 1
  | .map entries => uptoBulkEntries entries + 1
  | .held _ => 1
def uptoBulkAll {H : Type} : List (DataW H) → Nat
  | [] => 0
  | d :: r => uptoBulk d + uptoBulkAll r
def uptoBulkEntries {H : Type} : List (Lit × DataW H) → Nat
  | [] => 0
  | x :: r => uptoBulkEntry x + uptoBulkEntries r
def uptoBulkEntry {H : Type} : Lit × DataW H → Nat
  | (.string bytes, d) => bytes.length + uptoBulk d + 1
  | (_, d) => uptoBulk d + 1
 end
def uptoSmall : (H : Type) → List (DataW H) → Bool := fun _ ds => decide (uptoBulkAll ds ≤ 1048576)
def OpenSpec.upto (s : _root_.Go.ChangeSpec) : _root_.Go.OpenSpec := { _root_.Go.OpenSpec.ofChange s with cond := some uptoSmall }

/-- 'laws.FnBigHex', WHERE WHAT IT READS IS OF BULK AT MOST 1048576: true; the input reads as it did. -/
def fnBigHexUptoRow : OpenClaim := { program := "ytlokpenjafhhfaa", sum := "339cca19cefb4e1ca03e9187e571bb5507ec77373a6624abb07d0f49ff1c4259", func := "loop.example/lib-hexvarint/laws.FnBigHex", spec := "fnBigHex", named := ["encoding/binary.BigEndian"], apart := false, narrowed := true }
def FnBigHexUptoSaid : Prop := fnBigHexUptoRow.holds Try.pinned (OpenSpec.upto fnBigHexSpec)

/-- 'laws.FnEndsNumbers', WHERE WHAT IT READS IS OF BULK AT MOST 1048576: true; the input reads as it did. -/
def fnEndsNumbersUptoRow : OpenClaim := { program := "ytlokpenjafhhfaa", sum := "339cca19cefb4e1ca03e9187e571bb5507ec77373a6624abb07d0f49ff1c4259", func := "loop.example/lib-hexvarint/laws.FnEndsNumbers", spec := "fnEndsNumbers", named := ["encoding/binary.BigEndian", "encoding/binary.LittleEndian"], apart := false, narrowed := true }
def FnEndsNumbersUptoSaid : Prop := fnEndsNumbersUptoRow.holds Try.pinned (OpenSpec.upto fnEndsNumbersSpec)

end Rows
end Go.Proofs.Ytlokpenjafhhfaa
