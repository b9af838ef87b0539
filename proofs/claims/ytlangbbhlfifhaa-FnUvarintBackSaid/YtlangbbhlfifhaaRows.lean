/-
  No cell of these rows narrows 'for every input' (looked for: loops, veiled, ifaces, maps, wideKeys, modest, calm, conditions, laid).
  DERIVED. THE GIVEN ROWS OF THIS SEAT. 12 by the template 'for every input the law returns true; each argument reads behind the call as it read before'; 0 by the template 'total and deterministic' (their statements: YtlangbbhlfifhaaTotals.lean).
  GIVEN WITH THE SEED: the statements are not yours to turn. If you find one false, say at which input.
  Laid BY PROGRAM, IN A SANDBOX (cutbox-rows.mjs): the forced cells as the released guide's own fill.sh prints them over the translation 849747885bcf9985… (all of the seat's roots in one cut). By AI agents, Wed Nov 11 2026. No macro, syntax, notation, axiom, sorry.
-/
import Derived.Test.YtlangbbhlfifhaaChecked
import GoSem.Claim
import GoSem.ClaimJoined
import GoSem.ClaimMapViews
import Derived.JoinedTies
import Derived.KernelRfl
namespace Go.Proofs.Ytlangbbhlfifhaa
/- THE CELL 'sum', in the pinned program and in every row, IS THE sha256 OF THE DUMP (.gsa) THAT YtlangbbhlfifhaaProg.lean LOADS. Nothing in Lean hashes anything: it is a label: what it is worth is what the hold of that sum in a sandbox is worth. -/
noncomputable def Try.pinned : Pinned := { name := "ytlangbbhlfifhaa", sum := "849747885bcf9985a8e912aa95dfdc9ad7197dfe841eed6f1453c96c1379e901", checked := Try.checked }
namespace Rows
def none {H : Type} : Left H := { results := [], args := [] }

/-- 'laws.FnExactUvarint': WHATEVER THE INPUT: true; the input reads as it did. -/
def fnExactUvarintSpec : ChangeSpec := { name := "fnExactUvarint", fn := fun _ => fun
  | [d] => { results := [.lit (.bool true)], args := [d] }
  | _ => none }
def fnExactUvarintRow : OpenClaim := { program := "ytlangbbhlfifhaa", sum := "849747885bcf9985a8e912aa95dfdc9ad7197dfe841eed6f1453c96c1379e901", func := "loop.example/lib-hexvarint/laws.FnExactUvarint", spec := "fnExactUvarint", apart := false }
def FnExactUvarintSaid : Prop := fnExactUvarintRow.holds Try.pinned (OpenSpec.ofChange fnExactUvarintSpec)

/-- ITS FALSE NEIGHBOUR: 'it returns false'. Refute it at one input. -/
def fnExactUvarintWrong : ChangeSpec := { name := "fnExactUvarint", fn := fun _ => fun
  | [d] => { results := [.lit (.bool false)], args := [d] }
  | _ => none }
def FnExactUvarintWrongFalsely : Prop := fnExactUvarintRow.holds Try.pinned (OpenSpec.ofChange fnExactUvarintWrong)

/-- 'laws.FnUvarintFault': WHATEVER THE INPUT: true; the input reads as it did. -/
def fnUvarintFaultSpec : ChangeSpec := { name := "fnUvarintFault", fn := fun _ => fun
  | [d] => { results := [.lit (.bool true)], args := [d] }
  | _ => none }
def fnUvarintFaultRow : OpenClaim := { program := "ytlangbbhlfifhaa", sum := "849747885bcf9985a8e912aa95dfdc9ad7197dfe841eed6f1453c96c1379e901", func := "loop.example/lib-hexvarint/laws.FnUvarintFault", spec := "fnUvarintFault", apart := false }
def FnUvarintFaultSaid : Prop := fnUvarintFaultRow.holds Try.pinned (OpenSpec.ofChange fnUvarintFaultSpec)

/-- ITS FALSE NEIGHBOUR: 'it returns false'. Refute it at one input. -/
def fnUvarintFaultWrong : ChangeSpec := { name := "fnUvarintFault", fn := fun _ => fun
  | [d] => { results := [.lit (.bool false)], args := [d] }
  | _ => none }
def FnUvarintFaultWrongFalsely : Prop := fnUvarintFaultRow.holds Try.pinned (OpenSpec.ofChange fnUvarintFaultWrong)

/-- 'laws.FnUvarintLong': WHATEVER THE INPUT: true; the input reads as it did. -/
def fnUvarintLongSpec : ChangeSpec := { name := "fnUvarintLong", fn := fun _ => fun
  | [d1, d2] => { results := [.lit (.bool true)], args := [d1, d2] }
  | _ => none }
def fnUvarintLongRow : OpenClaim := { program := "ytlangbbhlfifhaa", sum := "849747885bcf9985a8e912aa95dfdc9ad7197dfe841eed6f1453c96c1379e901", func := "loop.example/lib-hexvarint/laws.FnUvarintLong", spec := "fnUvarintLong", apart := false }
def FnUvarintLongSaid : Prop := fnUvarintLongRow.holds Try.pinned (OpenSpec.ofChange fnUvarintLongSpec)

/-- ITS FALSE NEIGHBOUR: 'it returns false'. Refute it at one input. -/
def fnUvarintLongWrong : ChangeSpec := { name := "fnUvarintLong", fn := fun _ => fun
  | [d1, d2] => { results := [.lit (.bool false)], args := [d1, d2] }
  | _ => none }
def FnUvarintLongWrongFalsely : Prop := fnUvarintLongRow.holds Try.pinned (OpenSpec.ofChange fnUvarintLongWrong)

/-- 'laws.FnUvarintLongBytes': WHATEVER THE INPUT: true; the input reads as it did. -/
def fnUvarintLongBytesSpec : ChangeSpec := { name := "fnUvarintLongBytes", fn := fun _ => fun
  | [d1, d2, d3] => { results := [.lit (.bool true)], args := [d1, d2, d3] }
  | _ => none }
def fnUvarintLongBytesRow : OpenClaim := { program := "ytlangbbhlfifhaa", sum := "849747885bcf9985a8e912aa95dfdc9ad7197dfe841eed6f1453c96c1379e901", func := "loop.example/lib-hexvarint/laws.FnUvarintLongBytes", spec := "fnUvarintLongBytes", apart := false }
def FnUvarintLongBytesSaid : Prop := fnUvarintLongBytesRow.holds Try.pinned (OpenSpec.ofChange fnUvarintLongBytesSpec)

/-- ITS FALSE NEIGHBOUR: 'it returns false'. Refute it at one input. -/
def fnUvarintLongBytesWrong : ChangeSpec := { name := "fnUvarintLongBytes", fn := fun _ => fun
  | [d1, d2, d3] => { results := [.lit (.bool false)], args := [d1, d2, d3] }
  | _ => none }
def FnUvarintLongBytesWrongFalsely : Prop := fnUvarintLongBytesRow.holds Try.pinned (OpenSpec.ofChange fnUvarintLongBytesWrong)

/-- 'laws.FnUvarintOnly': WHATEVER THE INPUT: true; the input reads as it did. -/
def fnUvarintOnlySpec : ChangeSpec := { name := "fnUvarintOnly", fn := fun _ => fun
  | [d1, d2] => { results := [.lit (.bool true)], args := [d1, d2] }
  | _ => none }
def fnUvarintOnlyRow : OpenClaim := { program := "ytlangbbhlfifhaa", sum := "849747885bcf9985a8e912aa95dfdc9ad7197dfe841eed6f1453c96c1379e901", func := "loop.example/lib-hexvarint/laws.FnUvarintOnly", spec := "fnUvarintOnly", apart := false }
def FnUvarintOnlySaid : Prop := fnUvarintOnlyRow.holds Try.pinned (OpenSpec.ofChange fnUvarintOnlySpec)

/-- ITS FALSE NEIGHBOUR: 'it returns false'. Refute it at one input. -/
def fnUvarintOnlyWrong : ChangeSpec := { name := "fnUvarintOnly", fn := fun _ => fun
  | [d1, d2] => { results := [.lit (.bool false)], args := [d1, d2] }
  | _ => none }
def FnUvarintOnlyWrongFalsely : Prop := fnUvarintOnlyRow.holds Try.pinned (OpenSpec.ofChange fnUvarintOnlyWrong)

/-- 'laws.FnUvarintOver': WHATEVER THE INPUT: true; the input reads as it did. -/
def fnUvarintOverSpec : ChangeSpec := { name := "fnUvarintOver", fn := fun _ => fun
  | [d1, d2, d3] => { results := [.lit (.bool true)], args := [d1, d2, d3] }
  | _ => none }
def fnUvarintOverRow : OpenClaim := { program := "ytlangbbhlfifhaa", sum := "849747885bcf9985a8e912aa95dfdc9ad7197dfe841eed6f1453c96c1379e901", func := "loop.example/lib-hexvarint/laws.FnUvarintOver", spec := "fnUvarintOver", apart := false }
def FnUvarintOverSaid : Prop := fnUvarintOverRow.holds Try.pinned (OpenSpec.ofChange fnUvarintOverSpec)

/-- ITS FALSE NEIGHBOUR: 'it returns false'. Refute it at one input. -/
def fnUvarintOverWrong : ChangeSpec := { name := "fnUvarintOver", fn := fun _ => fun
  | [d1, d2, d3] => { results := [.lit (.bool false)], args := [d1, d2, d3] }
  | _ => none }
def FnUvarintOverWrongFalsely : Prop := fnUvarintOverRow.holds Try.pinned (OpenSpec.ofChange fnUvarintOverWrong)

/-- 'laws.FnUvarintRead': WHATEVER THE INPUT: true; the input reads as it did. -/
def fnUvarintReadSpec : ChangeSpec := { name := "fnUvarintRead", fn := fun _ => fun
  | [d] => { results := [.lit (.bool true)], args := [d] }
  | _ => none }
def fnUvarintReadRow : OpenClaim := { program := "ytlangbbhlfifhaa", sum := "849747885bcf9985a8e912aa95dfdc9ad7197dfe841eed6f1453c96c1379e901", func := "loop.example/lib-hexvarint/laws.FnUvarintRead", spec := "fnUvarintRead", apart := false }
def FnUvarintReadSaid : Prop := fnUvarintReadRow.holds Try.pinned (OpenSpec.ofChange fnUvarintReadSpec)

/-- ITS FALSE NEIGHBOUR: 'it returns false'. Refute it at one input. -/
def fnUvarintReadWrong : ChangeSpec := { name := "fnUvarintRead", fn := fun _ => fun
  | [d] => { results := [.lit (.bool false)], args := [d] }
  | _ => none }
def FnUvarintReadWrongFalsely : Prop := fnUvarintReadRow.holds Try.pinned (OpenSpec.ofChange fnUvarintReadWrong)

/-- 'laws.FnExactVarint': WHATEVER THE INPUT: true; the input reads as it did. -/
def fnExactVarintSpec : ChangeSpec := { name := "fnExactVarint", fn := fun _ => fun
  | [d] => { results := [.lit (.bool true)], args := [d] }
  | _ => none }
def fnExactVarintRow : OpenClaim := { program := "ytlangbbhlfifhaa", sum := "849747885bcf9985a8e912aa95dfdc9ad7197dfe841eed6f1453c96c1379e901", func := "loop.example/lib-hexvarint/laws.FnExactVarint", spec := "fnExactVarint", apart := false }
def FnExactVarintSaid : Prop := fnExactVarintRow.holds Try.pinned (OpenSpec.ofChange fnExactVarintSpec)

/-- ITS FALSE NEIGHBOUR: 'it returns false'. Refute it at one input. -/
def fnExactVarintWrong : ChangeSpec := { name := "fnExactVarint", fn := fun _ => fun
  | [d] => { results := [.lit (.bool false)], args := [d] }
  | _ => none }
def FnExactVarintWrongFalsely : Prop := fnExactVarintRow.holds Try.pinned (OpenSpec.ofChange fnExactVarintWrong)

/-- 'laws.FnVarintLong': WHATEVER THE INPUT: true; the input reads as it did. -/
def fnVarintLongSpec : ChangeSpec := { name := "fnVarintLong", fn := fun _ => fun
  | [d1, d2] => { results := [.lit (.bool true)], args := [d1, d2] }
  | _ => none }
def fnVarintLongRow : OpenClaim := { program := "ytlangbbhlfifhaa", sum := "849747885bcf9985a8e912aa95dfdc9ad7197dfe841eed6f1453c96c1379e901", func := "loop.example/lib-hexvarint/laws.FnVarintLong", spec := "fnVarintLong", apart := false }
def FnVarintLongSaid : Prop := fnVarintLongRow.holds Try.pinned (OpenSpec.ofChange fnVarintLongSpec)

/-- ITS FALSE NEIGHBOUR: 'it returns false'. Refute it at one input. -/
def fnVarintLongWrong : ChangeSpec := { name := "fnVarintLong", fn := fun _ => fun
  | [d1, d2] => { results := [.lit (.bool false)], args := [d1, d2] }
  | _ => none }
def FnVarintLongWrongFalsely : Prop := fnVarintLongRow.holds Try.pinned (OpenSpec.ofChange fnVarintLongWrong)

/-- 'laws.FnVarintLongBytes': WHATEVER THE INPUT: true; the input reads as it did. -/
def fnVarintLongBytesSpec : ChangeSpec := { name := "fnVarintLongBytes", fn := fun _ => fun
  | [d1, d2, d3] => { results := [.lit (.bool true)], args := [d1, d2, d3] }
  | _ => none }
def fnVarintLongBytesRow : OpenClaim := { program := "ytlangbbhlfifhaa", sum := "849747885bcf9985a8e912aa95dfdc9ad7197dfe841eed6f1453c96c1379e901", func := "loop.example/lib-hexvarint/laws.FnVarintLongBytes", spec := "fnVarintLongBytes", apart := false }
def FnVarintLongBytesSaid : Prop := fnVarintLongBytesRow.holds Try.pinned (OpenSpec.ofChange fnVarintLongBytesSpec)

/-- ITS FALSE NEIGHBOUR: 'it returns false'. Refute it at one input. -/
def fnVarintLongBytesWrong : ChangeSpec := { name := "fnVarintLongBytes", fn := fun _ => fun
  | [d1, d2, d3] => { results := [.lit (.bool false)], args := [d1, d2, d3] }
  | _ => none }
def FnVarintLongBytesWrongFalsely : Prop := fnVarintLongBytesRow.holds Try.pinned (OpenSpec.ofChange fnVarintLongBytesWrong)

/-- 'laws.FnVarintRoads': WHATEVER THE INPUT: true; the input reads as it did. -/
def fnVarintRoadsSpec : ChangeSpec := { name := "fnVarintRoads", fn := fun _ => fun
  | [d] => { results := [.lit (.bool true)], args := [d] }
  | _ => none }
def fnVarintRoadsRow : OpenClaim := { program := "ytlangbbhlfifhaa", sum := "849747885bcf9985a8e912aa95dfdc9ad7197dfe841eed6f1453c96c1379e901", func := "loop.example/lib-hexvarint/laws.FnVarintRoads", spec := "fnVarintRoads", apart := false }
def FnVarintRoadsSaid : Prop := fnVarintRoadsRow.holds Try.pinned (OpenSpec.ofChange fnVarintRoadsSpec)

/-- ITS FALSE NEIGHBOUR: 'it returns false'. Refute it at one input. -/
def fnVarintRoadsWrong : ChangeSpec := { name := "fnVarintRoads", fn := fun _ => fun
  | [d] => { results := [.lit (.bool false)], args := [d] }
  | _ => none }
def FnVarintRoadsWrongFalsely : Prop := fnVarintRoadsRow.holds Try.pinned (OpenSpec.ofChange fnVarintRoadsWrong)

/-- 'laws.FnUvarintBack': WHATEVER THE INPUT: true; the input reads as it did. -/
def fnUvarintBackSpec : ChangeSpec := { name := "fnUvarintBack", fn := fun _ => fun
  | [d1, d2] => { results := [.lit (.bool true)], args := [d1, d2] }
  | _ => none }
def fnUvarintBackRow : OpenClaim := { program := "ytlangbbhlfifhaa", sum := "849747885bcf9985a8e912aa95dfdc9ad7197dfe841eed6f1453c96c1379e901", func := "loop.example/lib-hexvarint/laws.FnUvarintBack", spec := "fnUvarintBack", apart := false }
def FnUvarintBackSaid : Prop := fnUvarintBackRow.holds Try.pinned (OpenSpec.ofChange fnUvarintBackSpec)

/-- ITS FALSE NEIGHBOUR: 'it returns false'. Refute it at one input. -/
def fnUvarintBackWrong : ChangeSpec := { name := "fnUvarintBack", fn := fun _ => fun
  | [d1, d2] => { results := [.lit (.bool false)], args := [d1, d2] }
  | _ => none }
def FnUvarintBackWrongFalsely : Prop := fnUvarintBackRow.holds Try.pinned (OpenSpec.ofChange fnUvarintBackWrong)

/- THE SECOND FORM. 'bulk': how many values and letters a reading holds, each counted each time it is reached (what is shared counts as often as it is met; a slice's spare places count too). A statement '..UptoSaid' is the law's where the arguments, and the package variables that the reading takes, are together of bulk at most 1048576: NARROWER than '..Said'. Prove '..Said' where nothing that the law and all that it calls make is longer than what came in: it says more and counts as full. Else prove '..UptoSaid'. A law counts once. -/
mutual
def uptoBulk {H : Type} : DataW H → Nat
  | .lit (.string bytes) => bytes.length + 1
  | .lit _ => 1
  | .nil => 1
  | .ptr d => uptoBulk d + 1
  | .slice elems spare => uptoBulkAll elems + uptoBulkAll spare + 1
  | .agg parts => uptoBulkAll parts + 1
  | .iface _ d => uptoBulk d + 1
  | .map entries => uptoBulkEntries entries + 1
  | .held _ => 1
def uptoBulkAll {H : Type} : List (DataW H) → Nat
  | [] => 0
  | d :: r => uptoBulk d + uptoBulkAll r
def uptoBulkEntries {H : Type} : List (Lit × DataW H) → Nat
  | [] => 0
  | x :: r => uptoBulkEntry x + uptoBulkEntries r
def uptoBulkEntry {H : Type} : Lit × DataW H → Nat
  | (.string bytes, d) => bytes.length + uptoBulk d + 1
  | (_, d) => uptoBulk d + 1
 end
def uptoSmall : (H : Type) → List (DataW H) → Bool := fun _ ds => decide (uptoBulkAll ds ≤ 1048576)
def OpenSpec.upto (s : _root_.Go.ChangeSpec) : _root_.Go.OpenSpec := { _root_.Go.OpenSpec.ofChange s with cond := some uptoSmall }

/-- 'laws.FnExactUvarint', WHERE WHAT IT READS IS OF BULK AT MOST 1048576: true; the input reads as it did. -/
def fnExactUvarintUptoRow : OpenClaim := { program := "ytlangbbhlfifhaa", sum := "849747885bcf9985a8e912aa95dfdc9ad7197dfe841eed6f1453c96c1379e901", func := "loop.example/lib-hexvarint/laws.FnExactUvarint", spec := "fnExactUvarint", apart := false, narrowed := true }
def FnExactUvarintUptoSaid : Prop := fnExactUvarintUptoRow.holds Try.pinned (OpenSpec.upto fnExactUvarintSpec)

/-- 'laws.FnUvarintFault', WHERE WHAT IT READS IS OF BULK AT MOST 1048576: true; the input reads as it did. -/
def fnUvarintFaultUptoRow : OpenClaim := { program := "ytlangbbhlfifhaa", sum := "849747885bcf9985a8e912aa95dfdc9ad7197dfe841eed6f1453c96c1379e901", func := "loop.example/lib-hexvarint/laws.FnUvarintFault", spec := "fnUvarintFault", apart := false, narrowed := true }
def FnUvarintFaultUptoSaid : Prop := fnUvarintFaultUptoRow.holds Try.pinned (OpenSpec.upto fnUvarintFaultSpec)

/-- 'laws.FnUvarintLong', WHERE WHAT IT READS IS OF BULK AT MOST 1048576: true; the input reads as it did. -/
def fnUvarintLongUptoRow : OpenClaim := { program := "ytlangbbhlfifhaa", sum := "849747885bcf9985a8e912aa95dfdc9ad7197dfe841eed6f1453c96c1379e901", func := "loop.example/lib-hexvarint/laws.FnUvarintLong", spec := "fnUvarintLong", apart := false, narrowed := true }
def FnUvarintLongUptoSaid : Prop := fnUvarintLongUptoRow.holds Try.pinned (OpenSpec.upto fnUvarintLongSpec)

/-- 'laws.FnUvarintLongBytes', WHERE WHAT IT READS IS OF BULK AT MOST 1048576: true; the input reads as it did. -/
def fnUvarintLongBytesUptoRow : OpenClaim := { program := "ytlangbbhlfifhaa", sum := "849747885bcf9985a8e912aa95dfdc9ad7197dfe841eed6f1453c96c1379e901", func := "loop.example/lib-hexvarint/laws.FnUvarintLongBytes", spec := "fnUvarintLongBytes", apart := false, narrowed := true }
def FnUvarintLongBytesUptoSaid : Prop := fnUvarintLongBytesUptoRow.holds Try.pinned (OpenSpec.upto fnUvarintLongBytesSpec)

/-- 'laws.FnUvarintOnly', WHERE WHAT IT READS IS OF BULK AT MOST 1048576: true; the input reads as it did. -/
def fnUvarintOnlyUptoRow : OpenClaim := { program := "ytlangbbhlfifhaa", sum := "849747885bcf9985a8e912aa95dfdc9ad7197dfe841eed6f1453c96c1379e901", func := "loop.example/lib-hexvarint/laws.FnUvarintOnly", spec := "fnUvarintOnly", apart := false, narrowed := true }
def FnUvarintOnlyUptoSaid : Prop := fnUvarintOnlyUptoRow.holds Try.pinned (OpenSpec.upto fnUvarintOnlySpec)

/-- 'laws.FnUvarintOver', WHERE WHAT IT READS IS OF BULK AT MOST 1048576: true; the input reads as it did. -/
def fnUvarintOverUptoRow : OpenClaim := { program := "ytlangbbhlfifhaa", sum := "849747885bcf9985a8e912aa95dfdc9ad7197dfe841eed6f1453c96c1379e901", func := "loop.example/lib-hexvarint/laws.FnUvarintOver", spec := "fnUvarintOver", apart := false, narrowed := true }
def FnUvarintOverUptoSaid : Prop := fnUvarintOverUptoRow.holds Try.pinned (OpenSpec.upto fnUvarintOverSpec)

/-- 'laws.FnUvarintRead', WHERE WHAT IT READS IS OF BULK AT MOST 1048576: true; the input reads as it did. -/
def fnUvarintReadUptoRow : OpenClaim := { program := "ytlangbbhlfifhaa", sum := "849747885bcf9985a8e912aa95dfdc9ad7197dfe841eed6f1453c96c1379e901", func := "loop.example/lib-hexvarint/laws.FnUvarintRead", spec := "fnUvarintRead", apart := false, narrowed := true }
def FnUvarintReadUptoSaid : Prop := fnUvarintReadUptoRow.holds Try.pinned (OpenSpec.upto fnUvarintReadSpec)

/-- 'laws.FnExactVarint', WHERE WHAT IT READS IS OF BULK AT MOST 1048576: true; the input reads as it did. -/
def fnExactVarintUptoRow : OpenClaim := { program := "ytlangbbhlfifhaa", sum := "849747885bcf9985a8e912aa95dfdc9ad7197dfe841eed6f1453c96c1379e901", func := "loop.example/lib-hexvarint/laws.FnExactVarint", spec := "fnExactVarint", apart := false, narrowed := true }
def FnExactVarintUptoSaid : Prop := fnExactVarintUptoRow.holds Try.pinned (OpenSpec.upto fnExactVarintSpec)

/-- 'laws.FnVarintLong', WHERE WHAT IT READS IS OF BULK AT MOST 1048576: true; the input reads as it did. -/
def fnVarintLongUptoRow : OpenClaim := { program := "ytlangbbhlfifhaa", sum := "849747885bcf9985a8e912aa95dfdc9ad7197dfe841eed6f1453c96c1379e901", func := "loop.example/lib-hexvarint/laws.FnVarintLong", spec := "fnVarintLong", apart := false, narrowed := true }
def FnVarintLongUptoSaid : Prop := fnVarintLongUptoRow.holds Try.pinned (OpenSpec.upto fnVarintLongSpec)

/-- 'laws.FnVarintLongBytes', WHERE WHAT IT READS IS OF BULK AT MOST 1048576: true; the input reads as it did. -/
def fnVarintLongBytesUptoRow : OpenClaim := { program := "ytlangbbhlfifhaa", sum := "849747885bcf9985a8e912aa95dfdc9ad7197dfe841eed6f1453c96c1379e901", func := "loop.example/lib-hexvarint/laws.FnVarintLongBytes", spec := "fnVarintLongBytes", apart := false, narrowed := true }
def FnVarintLongBytesUptoSaid : Prop := fnVarintLongBytesUptoRow.holds Try.pinned (OpenSpec.upto fnVarintLongBytesSpec)

/-- 'laws.FnVarintRoads', WHERE WHAT IT READS IS OF BULK AT MOST 1048576: true; the input reads as it did. -/
def fnVarintRoadsUptoRow : OpenClaim := { program := "ytlangbbhlfifhaa", sum := "849747885bcf9985a8e912aa95dfdc9ad7197dfe841eed6f1453c96c1379e901", func := "loop.example/lib-hexvarint/laws.FnVarintRoads", spec := "fnVarintRoads", apart := false, narrowed := true }
def FnVarintRoadsUptoSaid : Prop := fnVarintRoadsUptoRow.holds Try.pinned (OpenSpec.upto fnVarintRoadsSpec)

/-- 'laws.FnUvarintBack', WHERE WHAT IT READS IS OF BULK AT MOST 1048576: true; the input reads as it did. -/
def fnUvarintBackUptoRow : OpenClaim := { program := "ytlangbbhlfifhaa", sum := "849747885bcf9985a8e912aa95dfdc9ad7197dfe841eed6f1453c96c1379e901", func := "loop.example/lib-hexvarint/laws.FnUvarintBack", spec := "fnUvarintBack", apart := false, narrowed := true }
def FnUvarintBackUptoSaid : Prop := fnUvarintBackUptoRow.holds Try.pinned (OpenSpec.upto fnUvarintBackSpec)

end Rows
end Go.Proofs.Ytlangbbhlfifhaa
