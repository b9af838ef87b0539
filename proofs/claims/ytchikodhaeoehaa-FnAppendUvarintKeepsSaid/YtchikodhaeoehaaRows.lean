/-
  No cell of these rows narrows 'for every input' (looked for: loops, veiled, ifaces, maps, wideKeys, modest, calm, conditions, laid).
  DERIVED. THE GIVEN ROWS OF THIS SEAT. 12 by the template 'for every input the law returns true; each argument reads behind the call as it read before'; 0 by the template 'total and deterministic' (their statements: YtchikodhaeoehaaTotals.lean).
  GIVEN WITH THE SEED: the statements are not yours to turn. If you find one false, say at which input.
  Laid BY PROGRAM, IN A SANDBOX (cutbox-rows.mjs): the forced cells as the released guide's own fill.sh prints them over the translation 9b2608e853526fd3… (all of the seat's roots in one cut). By AI agents, Wed Nov 11 2026. No macro, syntax, notation, axiom, sorry.
-/
import Derived.Test.YtchikodhaeoehaaChecked
import GoSem.Claim
import GoSem.ClaimJoined
import GoSem.ClaimMapViews
import Derived.JoinedTies
import Derived.KernelRfl
namespace Go.Proofs.Ytchikodhaeoehaa
/- THE CELL 'sum', in the pinned program and in every row, IS THE sha256 OF THE DUMP (.gsa) THAT YtchikodhaeoehaaProg.lean LOADS. Nothing in Lean hashes anything: it is a label: what it is worth is what the hold of that sum in a sandbox is worth. -/
noncomputable def Try.pinned : Pinned := { name := "ytchikodhaeoehaa", sum := "9b2608e853526fd370f5d6ec77c66ecf5ad08cf642c68bd6388888343b3d4b8c", checked := Try.checked }
namespace Rows
def none {H : Type} : Left H := { results := [], args := [] }

/-- 'laws.FnAppendUvarintKeeps': WHATEVER THE INPUT: true; the input reads as it did. -/
def fnAppendUvarintKeepsSpec : ChangeSpec := { name := "fnAppendUvarintKeeps", fn := fun _ => fun
  | [d1, d2] => { results := [.lit (.bool true)], args := [d1, d2] }
  | _ => none }
def fnAppendUvarintKeepsRow : OpenClaim := { program := "ytchikodhaeoehaa", sum := "9b2608e853526fd370f5d6ec77c66ecf5ad08cf642c68bd6388888343b3d4b8c", func := "loop.example/lib-hexvarint/laws.FnAppendUvarintKeeps", spec := "fnAppendUvarintKeeps", apart := false }
def FnAppendUvarintKeepsSaid : Prop := fnAppendUvarintKeepsRow.holds Try.pinned (OpenSpec.ofChange fnAppendUvarintKeepsSpec)

/-- ITS FALSE NEIGHBOUR: 'it returns false'. Refute it at one input. -/
def fnAppendUvarintKeepsWrong : ChangeSpec := { name := "fnAppendUvarintKeeps", fn := fun _ => fun
  | [d1, d2] => { results := [.lit (.bool false)], args := [d1, d2] }
  | _ => none }
def FnAppendUvarintKeepsWrongFalsely : Prop := fnAppendUvarintKeepsRow.holds Try.pinned (OpenSpec.ofChange fnAppendUvarintKeepsWrong)

/-- 'laws.FnExactAppendUvarint': WHATEVER THE INPUT: true; the input reads as it did. -/
def fnExactAppendUvarintSpec : ChangeSpec := { name := "fnExactAppendUvarint", fn := fun _ => fun
  | [d1, d2] => { results := [.lit (.bool true)], args := [d1, d2] }
  | _ => none }
def fnExactAppendUvarintRow : OpenClaim := { program := "ytchikodhaeoehaa", sum := "9b2608e853526fd370f5d6ec77c66ecf5ad08cf642c68bd6388888343b3d4b8c", func := "loop.example/lib-hexvarint/laws.FnExactAppendUvarint", spec := "fnExactAppendUvarint", recurses := true, apart := false }
def FnExactAppendUvarintSaid : Prop := fnExactAppendUvarintRow.holds Try.pinned (OpenSpec.ofChange fnExactAppendUvarintSpec)

/-- ITS FALSE NEIGHBOUR: 'it returns false'. Refute it at one input. -/
def fnExactAppendUvarintWrong : ChangeSpec := { name := "fnExactAppendUvarint", fn := fun _ => fun
  | [d1, d2] => { results := [.lit (.bool false)], args := [d1, d2] }
  | _ => none }
def FnExactAppendUvarintWrongFalsely : Prop := fnExactAppendUvarintRow.holds Try.pinned (OpenSpec.ofChange fnExactAppendUvarintWrong)

/-- 'laws.FnVarintFree': WHATEVER THE INPUT: true; the input reads as it did. -/
def fnVarintFreeSpec : ChangeSpec := { name := "fnVarintFree", fn := fun _ => fun
  | [d1, d2] => { results := [.lit (.bool true)], args := [d1, d2] }
  | _ => none }
def fnVarintFreeRow : OpenClaim := { program := "ytchikodhaeoehaa", sum := "9b2608e853526fd370f5d6ec77c66ecf5ad08cf642c68bd6388888343b3d4b8c", func := "loop.example/lib-hexvarint/laws.FnVarintFree", spec := "fnVarintFree", apart := false }
def FnVarintFreeSaid : Prop := fnVarintFreeRow.holds Try.pinned (OpenSpec.ofChange fnVarintFreeSpec)

/-- ITS FALSE NEIGHBOUR: 'it returns false'. Refute it at one input. -/
def fnVarintFreeWrong : ChangeSpec := { name := "fnVarintFree", fn := fun _ => fun
  | [d1, d2] => { results := [.lit (.bool false)], args := [d1, d2] }
  | _ => none }
def FnVarintFreeWrongFalsely : Prop := fnVarintFreeRow.holds Try.pinned (OpenSpec.ofChange fnVarintFreeWrong)

/-- 'laws.FnVarintLen': WHATEVER THE INPUT: true; the input reads as it did. -/
def fnVarintLenSpec : ChangeSpec := { name := "fnVarintLen", fn := fun _ => fun
  | [d] => { results := [.lit (.bool true)], args := [d] }
  | _ => none }
def fnVarintLenRow : OpenClaim := { program := "ytchikodhaeoehaa", sum := "9b2608e853526fd370f5d6ec77c66ecf5ad08cf642c68bd6388888343b3d4b8c", func := "loop.example/lib-hexvarint/laws.FnVarintLen", spec := "fnVarintLen", apart := false }
def FnVarintLenSaid : Prop := fnVarintLenRow.holds Try.pinned (OpenSpec.ofChange fnVarintLenSpec)

/-- ITS FALSE NEIGHBOUR: 'it returns false'. Refute it at one input. -/
def fnVarintLenWrong : ChangeSpec := { name := "fnVarintLen", fn := fun _ => fun
  | [d] => { results := [.lit (.bool false)], args := [d] }
  | _ => none }
def FnVarintLenWrongFalsely : Prop := fnVarintLenRow.holds Try.pinned (OpenSpec.ofChange fnVarintLenWrong)

/-- 'laws.FnVarintMore': WHATEVER THE INPUT: true; the input reads as it did. -/
def fnVarintMoreSpec : ChangeSpec := { name := "fnVarintMore", fn := fun _ => fun
  | [d] => { results := [.lit (.bool true)], args := [d] }
  | _ => none }
def fnVarintMoreRow : OpenClaim := { program := "ytchikodhaeoehaa", sum := "9b2608e853526fd370f5d6ec77c66ecf5ad08cf642c68bd6388888343b3d4b8c", func := "loop.example/lib-hexvarint/laws.FnVarintMore", spec := "fnVarintMore", apart := false }
def FnVarintMoreSaid : Prop := fnVarintMoreRow.holds Try.pinned (OpenSpec.ofChange fnVarintMoreSpec)

/-- ITS FALSE NEIGHBOUR: 'it returns false'. Refute it at one input. -/
def fnVarintMoreWrong : ChangeSpec := { name := "fnVarintMore", fn := fun _ => fun
  | [d] => { results := [.lit (.bool false)], args := [d] }
  | _ => none }
def FnVarintMoreWrongFalsely : Prop := fnVarintMoreRow.holds Try.pinned (OpenSpec.ofChange fnVarintMoreWrong)

/-- 'laws.FnVarintSame': WHATEVER THE INPUT: true; the input reads as it did. -/
def fnVarintSameSpec : ChangeSpec := { name := "fnVarintSame", fn := fun _ => fun
  | [d1, d2] => { results := [.lit (.bool true)], args := [d1, d2] }
  | _ => none }
def fnVarintSameRow : OpenClaim := { program := "ytchikodhaeoehaa", sum := "9b2608e853526fd370f5d6ec77c66ecf5ad08cf642c68bd6388888343b3d4b8c", func := "loop.example/lib-hexvarint/laws.FnVarintSame", spec := "fnVarintSame", apart := false }
def FnVarintSameSaid : Prop := fnVarintSameRow.holds Try.pinned (OpenSpec.ofChange fnVarintSameSpec)

/-- ITS FALSE NEIGHBOUR: 'it returns false'. Refute it at one input. -/
def fnVarintSameWrong : ChangeSpec := { name := "fnVarintSame", fn := fun _ => fun
  | [d1, d2] => { results := [.lit (.bool false)], args := [d1, d2] }
  | _ => none }
def FnVarintSameWrongFalsely : Prop := fnVarintSameRow.holds Try.pinned (OpenSpec.ofChange fnVarintSameWrong)

/-- 'laws.FnVarintUp': WHATEVER THE INPUT: true; the input reads as it did. -/
def fnVarintUpSpec : ChangeSpec := { name := "fnVarintUp", fn := fun _ => fun
  | [d1, d2] => { results := [.lit (.bool true)], args := [d1, d2] }
  | _ => none }
def fnVarintUpRow : OpenClaim := { program := "ytchikodhaeoehaa", sum := "9b2608e853526fd370f5d6ec77c66ecf5ad08cf642c68bd6388888343b3d4b8c", func := "loop.example/lib-hexvarint/laws.FnVarintUp", spec := "fnVarintUp", apart := false }
def FnVarintUpSaid : Prop := fnVarintUpRow.holds Try.pinned (OpenSpec.ofChange fnVarintUpSpec)

/-- ITS FALSE NEIGHBOUR: 'it returns false'. Refute it at one input. -/
def fnVarintUpWrong : ChangeSpec := { name := "fnVarintUp", fn := fun _ => fun
  | [d1, d2] => { results := [.lit (.bool false)], args := [d1, d2] }
  | _ => none }
def FnVarintUpWrongFalsely : Prop := fnVarintUpRow.holds Try.pinned (OpenSpec.ofChange fnVarintUpWrong)

/-- 'laws.FnExactAppendVarint': WHATEVER THE INPUT: true; the input reads as it did. -/
def fnExactAppendVarintSpec : ChangeSpec := { name := "fnExactAppendVarint", fn := fun _ => fun
  | [d1, d2] => { results := [.lit (.bool true)], args := [d1, d2] }
  | _ => none }
def fnExactAppendVarintRow : OpenClaim := { program := "ytchikodhaeoehaa", sum := "9b2608e853526fd370f5d6ec77c66ecf5ad08cf642c68bd6388888343b3d4b8c", func := "loop.example/lib-hexvarint/laws.FnExactAppendVarint", spec := "fnExactAppendVarint", recurses := true, apart := false }
def FnExactAppendVarintSaid : Prop := fnExactAppendVarintRow.holds Try.pinned (OpenSpec.ofChange fnExactAppendVarintSpec)

/-- ITS FALSE NEIGHBOUR: 'it returns false'. Refute it at one input. -/
def fnExactAppendVarintWrong : ChangeSpec := { name := "fnExactAppendVarint", fn := fun _ => fun
  | [d1, d2] => { results := [.lit (.bool false)], args := [d1, d2] }
  | _ => none }
def FnExactAppendVarintWrongFalsely : Prop := fnExactAppendVarintRow.holds Try.pinned (OpenSpec.ofChange fnExactAppendVarintWrong)

/-- 'laws.FnVarintSmall': WHATEVER THE INPUT: true; the input reads as it did. -/
def fnVarintSmallSpec : ChangeSpec := { name := "fnVarintSmall", fn := fun _ => fun
  | [d] => { results := [.lit (.bool true)], args := [d] }
  | _ => none }
def fnVarintSmallRow : OpenClaim := { program := "ytchikodhaeoehaa", sum := "9b2608e853526fd370f5d6ec77c66ecf5ad08cf642c68bd6388888343b3d4b8c", func := "loop.example/lib-hexvarint/laws.FnVarintSmall", spec := "fnVarintSmall", apart := false }
def FnVarintSmallSaid : Prop := fnVarintSmallRow.holds Try.pinned (OpenSpec.ofChange fnVarintSmallSpec)

/-- ITS FALSE NEIGHBOUR: 'it returns false'. Refute it at one input. -/
def fnVarintSmallWrong : ChangeSpec := { name := "fnVarintSmall", fn := fun _ => fun
  | [d] => { results := [.lit (.bool false)], args := [d] }
  | _ => none }
def FnVarintSmallWrongFalsely : Prop := fnVarintSmallRow.holds Try.pinned (OpenSpec.ofChange fnVarintSmallWrong)

/-- 'laws.FnVarintTurned': WHATEVER THE INPUT: true; the input reads as it did. -/
def fnVarintTurnedSpec : ChangeSpec := { name := "fnVarintTurned", fn := fun _ => fun
  | [d] => { results := [.lit (.bool true)], args := [d] }
  | _ => none }
def fnVarintTurnedRow : OpenClaim := { program := "ytchikodhaeoehaa", sum := "9b2608e853526fd370f5d6ec77c66ecf5ad08cf642c68bd6388888343b3d4b8c", func := "loop.example/lib-hexvarint/laws.FnVarintTurned", spec := "fnVarintTurned", apart := false }
def FnVarintTurnedSaid : Prop := fnVarintTurnedRow.holds Try.pinned (OpenSpec.ofChange fnVarintTurnedSpec)

/-- ITS FALSE NEIGHBOUR: 'it returns false'. Refute it at one input. -/
def fnVarintTurnedWrong : ChangeSpec := { name := "fnVarintTurned", fn := fun _ => fun
  | [d] => { results := [.lit (.bool false)], args := [d] }
  | _ => none }
def FnVarintTurnedWrongFalsely : Prop := fnVarintTurnedRow.holds Try.pinned (OpenSpec.ofChange fnVarintTurnedWrong)

/-- 'laws.FnVarintMost': WHATEVER THE INPUT: true; the input reads as it did. -/
def fnVarintMostSpec : ChangeSpec := { name := "fnVarintMost", fn := fun _ => fun
  | [d1, d2] => { results := [.lit (.bool true)], args := [d1, d2] }
  | _ => none }
def fnVarintMostRow : OpenClaim := { program := "ytchikodhaeoehaa", sum := "9b2608e853526fd370f5d6ec77c66ecf5ad08cf642c68bd6388888343b3d4b8c", func := "loop.example/lib-hexvarint/laws.FnVarintMost", spec := "fnVarintMost", apart := false }
def FnVarintMostSaid : Prop := fnVarintMostRow.holds Try.pinned (OpenSpec.ofChange fnVarintMostSpec)

/-- ITS FALSE NEIGHBOUR: 'it returns false'. Refute it at one input. -/
def fnVarintMostWrong : ChangeSpec := { name := "fnVarintMost", fn := fun _ => fun
  | [d1, d2] => { results := [.lit (.bool false)], args := [d1, d2] }
  | _ => none }
def FnVarintMostWrongFalsely : Prop := fnVarintMostRow.holds Try.pinned (OpenSpec.ofChange fnVarintMostWrong)

/-- 'laws.FnZigzag': WHATEVER THE INPUT: true; the input reads as it did. -/
def fnZigzagSpec : ChangeSpec := { name := "fnZigzag", fn := fun _ => fun
  | [d] => { results := [.lit (.bool true)], args := [d] }
  | _ => none }
def fnZigzagRow : OpenClaim := { program := "ytchikodhaeoehaa", sum := "9b2608e853526fd370f5d6ec77c66ecf5ad08cf642c68bd6388888343b3d4b8c", func := "loop.example/lib-hexvarint/laws.FnZigzag", spec := "fnZigzag", apart := false }
def FnZigzagSaid : Prop := fnZigzagRow.holds Try.pinned (OpenSpec.ofChange fnZigzagSpec)

/-- ITS FALSE NEIGHBOUR: 'it returns false'. Refute it at one input. -/
def fnZigzagWrong : ChangeSpec := { name := "fnZigzag", fn := fun _ => fun
  | [d] => { results := [.lit (.bool false)], args := [d] }
  | _ => none }
def FnZigzagWrongFalsely : Prop := fnZigzagRow.holds Try.pinned (OpenSpec.ofChange fnZigzagWrong)

/- THE SECOND FORM. 'bulk': how many values and letters a reading holds, each counted each time it is reached (what is shared counts as often as it is met; a slice's spare places count too). A statement '..UptoSaid' is the law's where the arguments, and the package variables that the reading takes, are together of bulk at most 1048576: NARROWER than '..Said'. Prove '..Said' where nothing that the law and all that it calls make is longer than what came in: it says more and counts as full. Else prove '..UptoSaid'. A law counts once. -/
mutual
def uptoBulk {H : Type} : DataW H → Nat
  | .lit (.string bytes) => bytes.length + 1
  | .lit _ => 1
  | .nil => 1
  | .ptr d => uptoBulk d + 1
  | .slice elems spare => uptoBulkAll elems + uptoBulkAll spare + 1
  | .agg parts => uptoBulkAll parts + 1
  | .iface _ d => uptoBulk d + 1
  | .map entries => uptoBulkEntries entries + 1
  | .held _ => 1
def uptoBulkAll {H : Type} : List (DataW H) → Nat
  | [] => 0
  | d :: r => uptoBulk d + uptoBulkAll r
def uptoBulkEntries {H : Type} : List (Lit × DataW H) → Nat
  | [] => 0
  | x :: r => uptoBulkEntry x + uptoBulkEntries r
def uptoBulkEntry {H : Type} : Lit × DataW H → Nat
  | (.string bytes, d) => bytes.length + uptoBulk d + 1
  | (_, d) => uptoBulk d + 1
 end
def uptoSmall : (H : Type) → List (DataW H) → Bool := fun _ ds => decide (uptoBulkAll ds ≤ 1048576)
def OpenSpec.upto (s : _root_.Go.ChangeSpec) : _root_.Go.OpenSpec := { _root_.Go.OpenSpec.ofChange s with cond := some uptoSmall }

/-- 'laws.FnAppendUvarintKeeps', WHERE WHAT IT READS IS OF BULK AT MOST 1048576: true; the input reads as it did. -/
def fnAppendUvarintKeepsUptoRow : OpenClaim := { program := "ytchikodhaeoehaa", sum := "9b2608e853526fd370f5d6ec77c66ecf5ad08cf642c68bd6388888343b3d4b8c", func := "loop.example/lib-hexvarint/laws.FnAppendUvarintKeeps", spec := "fnAppendUvarintKeeps", apart := false, narrowed := true }
def FnAppendUvarintKeepsUptoSaid : Prop := fnAppendUvarintKeepsUptoRow.holds Try.pinned (OpenSpec.upto fnAppendUvarintKeepsSpec)

/-- 'laws.FnExactAppendUvarint', WHERE WHAT IT READS IS OF BULK AT MOST 1048576: true; the input reads as it did. -/
def fnExactAppendUvarintUptoRow : OpenClaim := { program := "ytchikodhaeoehaa", sum := "9b2608e853526fd370f5d6ec77c66ecf5ad08cf642c68bd6388888343b3d4b8c", func := "loop.example/lib-hexvarint/laws.FnExactAppendUvarint", spec := "fnExactAppendUvarint", recurses := true, apart := false, narrowed := true }
def FnExactAppendUvarintUptoSaid : Prop := fnExactAppendUvarintUptoRow.holds Try.pinned (OpenSpec.upto fnExactAppendUvarintSpec)

/-- 'laws.FnVarintFree', WHERE WHAT IT READS IS OF BULK AT MOST 1048576: true; the input reads as it did. -/
def fnVarintFreeUptoRow : OpenClaim := { program := "ytchikodhaeoehaa", sum := "9b2608e853526fd370f5d6ec77c66ecf5ad08cf642c68bd6388888343b3d4b8c", func := "loop.example/lib-hexvarint/laws.FnVarintFree", spec := "fnVarintFree", apart := false, narrowed := true }
def FnVarintFreeUptoSaid : Prop := fnVarintFreeUptoRow.holds Try.pinned (OpenSpec.upto fnVarintFreeSpec)

/-- 'laws.FnVarintLen', WHERE WHAT IT READS IS OF BULK AT MOST 1048576: true; the input reads as it did. -/
def fnVarintLenUptoRow : OpenClaim := { program := "ytchikodhaeoehaa", sum := "9b2608e853526fd370f5d6ec77c66ecf5ad08cf642c68bd6388888343b3d4b8c", func := "loop.example/lib-hexvarint/laws.FnVarintLen", spec := "fnVarintLen", apart := false, narrowed := true }
def FnVarintLenUptoSaid : Prop := fnVarintLenUptoRow.holds Try.pinned (OpenSpec.upto fnVarintLenSpec)

/-- 'laws.FnVarintMore', WHERE WHAT IT READS IS OF BULK AT MOST 1048576: true; the input reads as it did. -/
def fnVarintMoreUptoRow : OpenClaim := { program := "ytchikodhaeoehaa", sum := "9b2608e853526fd370f5d6ec77c66ecf5ad08cf642c68bd6388888343b3d4b8c", func := "loop.example/lib-hexvarint/laws.FnVarintMore", spec := "fnVarintMore", apart := false, narrowed := true }
def FnVarintMoreUptoSaid : Prop := fnVarintMoreUptoRow.holds Try.pinned (OpenSpec.upto fnVarintMoreSpec)

/-- 'laws.FnVarintSame', WHERE WHAT IT READS IS OF BULK AT MOST 1048576: true; the input reads as it did. -/
def fnVarintSameUptoRow : OpenClaim := { program := "ytchikodhaeoehaa", sum := "9b2608e853526fd370f5d6ec77c66ecf5ad08cf642c68bd6388888343b3d4b8c", func := "loop.example/lib-hexvarint/laws.FnVarintSame", spec := "fnVarintSame", apart := false, narrowed := true }
def FnVarintSameUptoSaid : Prop := fnVarintSameUptoRow.holds Try.pinned (OpenSpec.upto fnVarintSameSpec)

/-- 'laws.FnVarintUp', WHERE WHAT IT READS IS OF BULK AT MOST 1048576: true; the input reads as it did. -/
def fnVarintUpUptoRow : OpenClaim := { program := "ytchikodhaeoehaa", sum := "9b2608e853526fd370f5d6ec77c66ecf5ad08cf642c68bd6388888343b3d4b8c", func := "loop.example/lib-hexvarint/laws.FnVarintUp", spec := "fnVarintUp", apart := false, narrowed := true }
def FnVarintUpUptoSaid : Prop := fnVarintUpUptoRow.holds Try.pinned (OpenSpec.upto fnVarintUpSpec)

/-- 'laws.FnExactAppendVarint', WHERE WHAT IT READS IS OF BULK AT MOST 1048576: true; the input reads as it did. -/
def fnExactAppendVarintUptoRow : OpenClaim := { program := "ytchikodhaeoehaa", sum := "9b2608e853526fd370f5d6ec77c66ecf5ad08cf642c68bd6388888343b3d4b8c", func := "loop.example/lib-hexvarint/laws.FnExactAppendVarint", spec := "fnExactAppendVarint", recurses := true, apart := false, narrowed := true }
def FnExactAppendVarintUptoSaid : Prop := fnExactAppendVarintUptoRow.holds Try.pinned (OpenSpec.upto fnExactAppendVarintSpec)

/-- 'laws.FnVarintSmall', WHERE WHAT IT READS IS OF BULK AT MOST 1048576: true; the input reads as it did. -/
def fnVarintSmallUptoRow : OpenClaim := { program := "ytchikodhaeoehaa", sum := "9b2608e853526fd370f5d6ec77c66ecf5ad08cf642c68bd6388888343b3d4b8c", func := "loop.example/lib-hexvarint/laws.FnVarintSmall", spec := "fnVarintSmall", apart := false, narrowed := true }
def FnVarintSmallUptoSaid : Prop := fnVarintSmallUptoRow.holds Try.pinned (OpenSpec.upto fnVarintSmallSpec)

/-- 'laws.FnVarintTurned', WHERE WHAT IT READS IS OF BULK AT MOST 1048576: true; the input reads as it did. -/
def fnVarintTurnedUptoRow : OpenClaim := { program := "ytchikodhaeoehaa", sum := "9b2608e853526fd370f5d6ec77c66ecf5ad08cf642c68bd6388888343b3d4b8c", func := "loop.example/lib-hexvarint/laws.FnVarintTurned", spec := "fnVarintTurned", apart := false, narrowed := true }
def FnVarintTurnedUptoSaid : Prop := fnVarintTurnedUptoRow.holds Try.pinned (OpenSpec.upto fnVarintTurnedSpec)

/-- 'laws.FnVarintMost', WHERE WHAT IT READS IS OF BULK AT MOST 1048576: true; the input reads as it did. -/
def fnVarintMostUptoRow : OpenClaim := { program := "ytchikodhaeoehaa", sum := "9b2608e853526fd370f5d6ec77c66ecf5ad08cf642c68bd6388888343b3d4b8c", func := "loop.example/lib-hexvarint/laws.FnVarintMost", spec := "fnVarintMost", apart := false, narrowed := true }
def FnVarintMostUptoSaid : Prop := fnVarintMostUptoRow.holds Try.pinned (OpenSpec.upto fnVarintMostSpec)

/-- 'laws.FnZigzag', WHERE WHAT IT READS IS OF BULK AT MOST 1048576: true; the input reads as it did. -/
def fnZigzagUptoRow : OpenClaim := { program := "ytchikodhaeoehaa", sum := "9b2608e853526fd370f5d6ec77c66ecf5ad08cf642c68bd6388888343b3d4b8c", func := "loop.example/lib-hexvarint/laws.FnZigzag", spec := "fnZigzag", apart := false, narrowed := true }
def FnZigzagUptoSaid : Prop := fnZigzagUptoRow.holds Try.pinned (OpenSpec.upto fnZigzagSpec)

end Rows
end Go.Proofs.Ytchikodhaeoehaa
