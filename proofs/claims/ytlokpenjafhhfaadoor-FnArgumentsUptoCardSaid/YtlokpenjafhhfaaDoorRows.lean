/-
  NARROWER THAN 'FOR EVERY INPUT', by the rows' own cells (each row's printed sentence says how): FnHexOfNumbers: laid · FnArguments: laid.
  DERIVED. THE GIVEN ROWS OF THIS SEAT. 2 by the template 'for every input the law returns true; each argument reads behind the call as it read before'; 0 by the template 'total and deterministic' (their statements: YtlokpenjafhhfaaDoorTotals.lean).
  GIVEN WITH THE SEED: the statements are not yours to turn. If you find one false, say at which input.
  Laid BY PROGRAM, IN A SANDBOX (cutbox-rows.mjs): the forced cells as the released guide's own fill.sh prints them over the translation 3e6ac63791b343e0… (all of the seat's roots in one cut). By AI agents, Wed Nov 11 2026. No macro, syntax, notation, axiom, sorry.
-/
import Derived.Test.YtlokpenjafhhfaaDoorChecked
import GoSem.Claim
import GoSem.ClaimJoined
import GoSem.ClaimMapViews
import Derived.JoinedTies
import Derived.KernelRfl
namespace Go.Proofs.YtlokpenjafhhfaaDoor
/- THE CELL 'sum', in the pinned program and in every row, IS THE sha256 OF THE DUMP (.gsa) THAT YtlokpenjafhhfaaDoorProg.lean LOADS. Nothing in Lean hashes anything: it is a label: what it is worth is what the hold of that sum in a sandbox is worth. -/
noncomputable def Tryd.pinned : Pinned := { name := "ytlokpenjafhhfaadoor", sum := "3e6ac63791b343e0246cd8e5e8a7a03248cb49b8aff72741a86e15bd1273f39d", checked := Tryd.checked }
namespace Rows
def none {H : Type} : Left H := { results := [], args := [] }

/- WHAT THE LISTED PACKAGE-LEVEL VARIABLES READ AS WHEN THE CALL BEGINS. Each datum BY PROGRAM (the guide's laid-datum.mjs) off the statement by which the dump's own 'gosem.cut.vars' lays the variable. In a bare row this is a premise. The card (YtlokpenjafhhfaaDoorCards.lean) ties it to the program's text. -/
def laid_encoding_hex_ErrLength {H : Type} : DataW H := .iface "*errors.errorString" (.ptr (.agg [.lit (.string [101, 110, 99, 111, 100, 105, 110, 103, 47, 104, 101, 120, 58, 32, 111, 100, 100, 32, 108, 101, 110, 103, 116, 104, 32, 104, 101, 120, 32, 115, 116, 114, 105, 110, 103])]))

/-- 'laws.FnHexOfNumbers': WHATEVER THE INPUT: true; the input reads as it did. -/
def fnHexOfNumbersSpec : ChangeSpec := { name := "fnHexOfNumbers", fn := fun _ => fun
  | [d] => { results := [.lit (.bool true)], args := [d] }
  | _ => none }
def fnHexOfNumbersRow : OpenClaim := { program := "ytlokpenjafhhfaadoor", sum := "3e6ac63791b343e0246cd8e5e8a7a03248cb49b8aff72741a86e15bd1273f39d", func := "loop.example/lib-hexvarint/laws.FnHexOfNumbers", spec := "fnHexOfNumbers", named := ["encoding/hex.ErrLength"], apart := false, laid := [("encoding/hex.ErrLength", laid_encoding_hex_ErrLength)] }
def FnHexOfNumbersSaid : Prop := fnHexOfNumbersRow.holds Tryd.pinned (OpenSpec.ofChange fnHexOfNumbersSpec)

/-- ITS FALSE NEIGHBOUR: 'it returns false'. Refute it at one input. -/
def fnHexOfNumbersWrong : ChangeSpec := { name := "fnHexOfNumbers", fn := fun _ => fun
  | [d] => { results := [.lit (.bool false)], args := [d] }
  | _ => none }
def FnHexOfNumbersWrongFalsely : Prop := fnHexOfNumbersRow.holds Tryd.pinned (OpenSpec.ofChange fnHexOfNumbersWrong)

/-- 'laws.FnArguments': WHATEVER THE INPUT: true; the input reads as it did. -/
def fnArgumentsSpec : ChangeSpec := { name := "fnArguments", fn := fun _ => fun
  | [d1, d2, d3] => { results := [.lit (.bool true)], args := [d1, d2, d3] }
  | _ => none }
def fnArgumentsRow : OpenClaim := { program := "ytlokpenjafhhfaadoor", sum := "3e6ac63791b343e0246cd8e5e8a7a03248cb49b8aff72741a86e15bd1273f39d", func := "loop.example/lib-hexvarint/laws.FnArguments", spec := "fnArguments", unfollowed := true, recurses := true, named := ["encoding/hex.ErrLength", "encoding/binary.BigEndian", "encoding/binary.LittleEndian"], apart := false, laid := [("encoding/hex.ErrLength", laid_encoding_hex_ErrLength)] }
def FnArgumentsSaid : Prop := fnArgumentsRow.holds Tryd.pinned (OpenSpec.ofChange fnArgumentsSpec)

/-- ITS FALSE NEIGHBOUR: 'it returns false'. Refute it at one input. -/
def fnArgumentsWrong : ChangeSpec := { name := "fnArguments", fn := fun _ => fun
  | [d1, d2, d3] => { results := [.lit (.bool false)], args := [d1, d2, d3] }
  | _ => none }
def FnArgumentsWrongFalsely : Prop := fnArgumentsRow.holds Tryd.pinned (OpenSpec.ofChange fnArgumentsWrong)

/- THE SECOND FORM. 'bulk': how many values and letters a reading holds, each counted each time it is reached (what is shared counts as often as it is met; a slice's spare places count too). A statement '..UptoSaid' is the law's where the arguments, and the package variables that the reading takes, are together of bulk at most 1048576: NARROWER than '..Said'. Prove '..Said' where nothing that the law and all that it calls make is longer than what came in: it says more and counts as full. Else prove '..UptoSaid'. A law counts once. -/
mutual
def uptoBulk {H : Type} : DataW H → Nat
  | .lit (.string bytes) => bytes.length + 1
  | .lit _ => 1
  | .nil => 1
  | .ptr d => uptoBulk d + 1
  | .slice elems spare => uptoBulkAll elems + uptoBulkAll spare + 1
  | .agg parts => uptoBulkAll parts + 1
  | .iface _ d => uptoBulk d + 1
  | .map entries => uptoBulkEntries entries + 1
  | .held _ => 1
def uptoBulkAll {H : Type} : List (DataW H) → Nat
  | [] => 0
  | d :: r => uptoBulk d + uptoBulkAll r
def uptoBulkEntries {H : Type} : List (Lit × DataW H) → Nat
  | [] => 0
  | x :: r => uptoBulkEntry x + uptoBulkEntries r
def uptoBulkEntry {H : Type} : Lit × DataW H → Nat
  | (.string bytes, d) => bytes.length + uptoBulk d + 1
  | (_, d) => uptoBulk d + 1
 end
def uptoSmall : (H : Type) → List (DataW H) → Bool := fun _ ds => decide (uptoBulkAll ds ≤ 1048576)
def OpenSpec.upto (s : _root_.Go.ChangeSpec) : _root_.Go.OpenSpec := { _root_.Go.OpenSpec.ofChange s with cond := some uptoSmall }

/-- 'laws.FnHexOfNumbers', WHERE WHAT IT READS IS OF BULK AT MOST 1048576: true; the input reads as it did. -/
def fnHexOfNumbersUptoRow : OpenClaim := { program := "ytlokpenjafhhfaadoor", sum := "3e6ac63791b343e0246cd8e5e8a7a03248cb49b8aff72741a86e15bd1273f39d", func := "loop.example/lib-hexvarint/laws.FnHexOfNumbers", spec := "fnHexOfNumbers", named := ["encoding/hex.ErrLength"], apart := false, laid := [("encoding/hex.ErrLength", laid_encoding_hex_ErrLength)], narrowed := true }
def FnHexOfNumbersUptoSaid : Prop := fnHexOfNumbersUptoRow.holds Tryd.pinned (OpenSpec.upto fnHexOfNumbersSpec)

/-- 'laws.FnArguments', WHERE WHAT IT READS IS OF BULK AT MOST 1048576: true; the input reads as it did. -/
def fnArgumentsUptoRow : OpenClaim := { program := "ytlokpenjafhhfaadoor", sum := "3e6ac63791b343e0246cd8e5e8a7a03248cb49b8aff72741a86e15bd1273f39d", func := "loop.example/lib-hexvarint/laws.FnArguments", spec := "fnArguments", unfollowed := true, recurses := true, named := ["encoding/hex.ErrLength", "encoding/binary.BigEndian", "encoding/binary.LittleEndian"], apart := false, laid := [("encoding/hex.ErrLength", laid_encoding_hex_ErrLength)], narrowed := true }
def FnArgumentsUptoSaid : Prop := fnArgumentsUptoRow.holds Tryd.pinned (OpenSpec.upto fnArgumentsSpec)

end Rows
end Go.Proofs.YtlokpenjafhhfaaDoor
