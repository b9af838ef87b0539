/-
  No cell of these rows narrows 'for every input' (looked for: loops, veiled, ifaces, maps, wideKeys, modest, calm, conditions, laid).
  DERIVED. THE GIVEN ROWS OF THIS SEAT. 11 by the template 'for every input the law returns true; each argument reads behind the call as it read before'; 0 by the template 'total and deterministic' (their statements: YtklebomhnclcgaaTotals.lean).
  GIVEN WITH THE SEED: the statements are not yours to turn. If you find one false, say at which input.
  Laid BY PROGRAM, IN A SANDBOX (cutbox-rows.mjs): the forced cells as the released guide's own fill.sh prints them over the translation 69f6559cc205fee7… (all of the seat's roots in one cut). By AI agents, Wed Nov 11 2026. No macro, syntax, notation, axiom, sorry.
-/
import Derived.Test.YtklebomhnclcgaaChecked
import GoSem.Claim
import GoSem.ClaimJoined
import GoSem.ClaimMapViews
import Derived.JoinedTies
import Derived.KernelRfl
namespace Go.Proofs.Ytklebomhnclcgaa
/- THE CELL 'sum', in the pinned program and in every row, IS THE sha256 OF THE DUMP (.gsa) THAT YtklebomhnclcgaaProg.lean LOADS. Nothing in Lean hashes anything: it is a label: what it is worth is what the hold of that sum in a sandbox is worth. -/
noncomputable def Try.pinned : Pinned := { name := "ytklebomhnclcgaa", sum := "69f6559cc205fee75fcc8b9f136d677b1155af704a6435e737760a43d27df3c7", checked := Try.checked }
namespace Rows
def none {H : Type} : Left H := { results := [], args := [] }

/-- 'laws.FnStreamAll': WHATEVER THE INPUT: true; the input reads as it did. -/
def fnStreamAllSpec : ChangeSpec := { name := "fnStreamAll", fn := fun _ => fun
  | [d] => { results := [.lit (.bool true)], args := [d] }
  | _ => none }
def fnStreamAllRow : OpenClaim := { program := "ytklebomhnclcgaa", sum := "69f6559cc205fee75fcc8b9f136d677b1155af704a6435e737760a43d27df3c7", func := "loop.example/lib-hexvarint/laws.FnStreamAll", spec := "fnStreamAll", apart := false }
def FnStreamAllSaid : Prop := fnStreamAllRow.holds Try.pinned (OpenSpec.ofChange fnStreamAllSpec)

/-- ITS FALSE NEIGHBOUR: 'it returns false'. Refute it at one input. -/
def fnStreamAllWrong : ChangeSpec := { name := "fnStreamAll", fn := fun _ => fun
  | [d] => { results := [.lit (.bool false)], args := [d] }
  | _ => none }
def FnStreamAllWrongFalsely : Prop := fnStreamAllRow.holds Try.pinned (OpenSpec.ofChange fnStreamAllWrong)

/-- 'laws.FnUvarintNought': WHATEVER THE INPUT: true; the input reads as it did. -/
def fnUvarintNoughtSpec : ChangeSpec := { name := "fnUvarintNought", fn := fun _ => fun
  | [d1, d2] => { results := [.lit (.bool true)], args := [d1, d2] }
  | _ => none }
def fnUvarintNoughtRow : OpenClaim := { program := "ytklebomhnclcgaa", sum := "69f6559cc205fee75fcc8b9f136d677b1155af704a6435e737760a43d27df3c7", func := "loop.example/lib-hexvarint/laws.FnUvarintNought", spec := "fnUvarintNought", apart := false }
def FnUvarintNoughtSaid : Prop := fnUvarintNoughtRow.holds Try.pinned (OpenSpec.ofChange fnUvarintNoughtSpec)

/-- ITS FALSE NEIGHBOUR: 'it returns false'. Refute it at one input. -/
def fnUvarintNoughtWrong : ChangeSpec := { name := "fnUvarintNought", fn := fun _ => fun
  | [d1, d2] => { results := [.lit (.bool false)], args := [d1, d2] }
  | _ => none }
def FnUvarintNoughtWrongFalsely : Prop := fnUvarintNoughtRow.holds Try.pinned (OpenSpec.ofChange fnUvarintNoughtWrong)

/-- 'laws.FnUvarintShort': WHATEVER THE INPUT: true; the input reads as it did. -/
def fnUvarintShortSpec : ChangeSpec := { name := "fnUvarintShort", fn := fun _ => fun
  | [d1, d2] => { results := [.lit (.bool true)], args := [d1, d2] }
  | _ => none }
def fnUvarintShortRow : OpenClaim := { program := "ytklebomhnclcgaa", sum := "69f6559cc205fee75fcc8b9f136d677b1155af704a6435e737760a43d27df3c7", func := "loop.example/lib-hexvarint/laws.FnUvarintShort", spec := "fnUvarintShort", apart := false }
def FnUvarintShortSaid : Prop := fnUvarintShortRow.holds Try.pinned (OpenSpec.ofChange fnUvarintShortSpec)

/-- ITS FALSE NEIGHBOUR: 'it returns false'. Refute it at one input. -/
def fnUvarintShortWrong : ChangeSpec := { name := "fnUvarintShort", fn := fun _ => fun
  | [d1, d2] => { results := [.lit (.bool false)], args := [d1, d2] }
  | _ => none }
def FnUvarintShortWrongFalsely : Prop := fnUvarintShortRow.holds Try.pinned (OpenSpec.ofChange fnUvarintShortWrong)

/-- 'laws.FnUvarintShortest': WHATEVER THE INPUT: true; the input reads as it did. -/
def fnUvarintShortestSpec : ChangeSpec := { name := "fnUvarintShortest", fn := fun _ => fun
  | [d] => { results := [.lit (.bool true)], args := [d] }
  | _ => none }
def fnUvarintShortestRow : OpenClaim := { program := "ytklebomhnclcgaa", sum := "69f6559cc205fee75fcc8b9f136d677b1155af704a6435e737760a43d27df3c7", func := "loop.example/lib-hexvarint/laws.FnUvarintShortest", spec := "fnUvarintShortest", apart := false }
def FnUvarintShortestSaid : Prop := fnUvarintShortestRow.holds Try.pinned (OpenSpec.ofChange fnUvarintShortestSpec)

/-- ITS FALSE NEIGHBOUR: 'it returns false'. Refute it at one input. -/
def fnUvarintShortestWrong : ChangeSpec := { name := "fnUvarintShortest", fn := fun _ => fun
  | [d] => { results := [.lit (.bool false)], args := [d] }
  | _ => none }
def FnUvarintShortestWrongFalsely : Prop := fnUvarintShortestRow.holds Try.pinned (OpenSpec.ofChange fnUvarintShortestWrong)

/-- 'laws.FnStreamSigned': WHATEVER THE INPUT: true; the input reads as it did. -/
def fnStreamSignedSpec : ChangeSpec := { name := "fnStreamSigned", fn := fun _ => fun
  | [d] => { results := [.lit (.bool true)], args := [d] }
  | _ => none }
def fnStreamSignedRow : OpenClaim := { program := "ytklebomhnclcgaa", sum := "69f6559cc205fee75fcc8b9f136d677b1155af704a6435e737760a43d27df3c7", func := "loop.example/lib-hexvarint/laws.FnStreamSigned", spec := "fnStreamSigned", apart := false }
def FnStreamSignedSaid : Prop := fnStreamSignedRow.holds Try.pinned (OpenSpec.ofChange fnStreamSignedSpec)

/-- ITS FALSE NEIGHBOUR: 'it returns false'. Refute it at one input. -/
def fnStreamSignedWrong : ChangeSpec := { name := "fnStreamSigned", fn := fun _ => fun
  | [d] => { results := [.lit (.bool false)], args := [d] }
  | _ => none }
def FnStreamSignedWrongFalsely : Prop := fnStreamSignedRow.holds Try.pinned (OpenSpec.ofChange fnStreamSignedWrong)

/-- 'laws.FnExactPutUvarint': WHATEVER THE INPUT: true; the input reads as it did. -/
def fnExactPutUvarintSpec : ChangeSpec := { name := "fnExactPutUvarint", fn := fun _ => fun
  | [d1, d2] => { results := [.lit (.bool true)], args := [d1, d2] }
  | _ => none }
def fnExactPutUvarintRow : OpenClaim := { program := "ytklebomhnclcgaa", sum := "69f6559cc205fee75fcc8b9f136d677b1155af704a6435e737760a43d27df3c7", func := "loop.example/lib-hexvarint/laws.FnExactPutUvarint", spec := "fnExactPutUvarint", unfollowed := true, recurses := true, apart := false }
def FnExactPutUvarintSaid : Prop := fnExactPutUvarintRow.holds Try.pinned (OpenSpec.ofChange fnExactPutUvarintSpec)

/-- ITS FALSE NEIGHBOUR: 'it returns false'. Refute it at one input. -/
def fnExactPutUvarintWrong : ChangeSpec := { name := "fnExactPutUvarint", fn := fun _ => fun
  | [d1, d2] => { results := [.lit (.bool false)], args := [d1, d2] }
  | _ => none }
def FnExactPutUvarintWrongFalsely : Prop := fnExactPutUvarintRow.holds Try.pinned (OpenSpec.ofChange fnExactPutUvarintWrong)

/-- 'laws.FnExactPutUvarintRest': WHATEVER THE INPUT: true; the input reads as it did. -/
def fnExactPutUvarintRestSpec : ChangeSpec := { name := "fnExactPutUvarintRest", fn := fun _ => fun
  | [d1, d2] => { results := [.lit (.bool true)], args := [d1, d2] }
  | _ => none }
def fnExactPutUvarintRestRow : OpenClaim := { program := "ytklebomhnclcgaa", sum := "69f6559cc205fee75fcc8b9f136d677b1155af704a6435e737760a43d27df3c7", func := "loop.example/lib-hexvarint/laws.FnExactPutUvarintRest", spec := "fnExactPutUvarintRest", unfollowed := true, recurses := true, apart := false }
def FnExactPutUvarintRestSaid : Prop := fnExactPutUvarintRestRow.holds Try.pinned (OpenSpec.ofChange fnExactPutUvarintRestSpec)

/-- ITS FALSE NEIGHBOUR: 'it returns false'. Refute it at one input. -/
def fnExactPutUvarintRestWrong : ChangeSpec := { name := "fnExactPutUvarintRest", fn := fun _ => fun
  | [d1, d2] => { results := [.lit (.bool false)], args := [d1, d2] }
  | _ => none }
def FnExactPutUvarintRestWrongFalsely : Prop := fnExactPutUvarintRestRow.holds Try.pinned (OpenSpec.ofChange fnExactPutUvarintRestWrong)

/-- 'laws.FnExactPutVarint': WHATEVER THE INPUT: true; the input reads as it did. -/
def fnExactPutVarintSpec : ChangeSpec := { name := "fnExactPutVarint", fn := fun _ => fun
  | [d1, d2] => { results := [.lit (.bool true)], args := [d1, d2] }
  | _ => none }
def fnExactPutVarintRow : OpenClaim := { program := "ytklebomhnclcgaa", sum := "69f6559cc205fee75fcc8b9f136d677b1155af704a6435e737760a43d27df3c7", func := "loop.example/lib-hexvarint/laws.FnExactPutVarint", spec := "fnExactPutVarint", unfollowed := true, recurses := true, apart := false }
def FnExactPutVarintSaid : Prop := fnExactPutVarintRow.holds Try.pinned (OpenSpec.ofChange fnExactPutVarintSpec)

/-- ITS FALSE NEIGHBOUR: 'it returns false'. Refute it at one input. -/
def fnExactPutVarintWrong : ChangeSpec := { name := "fnExactPutVarint", fn := fun _ => fun
  | [d1, d2] => { results := [.lit (.bool false)], args := [d1, d2] }
  | _ => none }
def FnExactPutVarintWrongFalsely : Prop := fnExactPutVarintRow.holds Try.pinned (OpenSpec.ofChange fnExactPutVarintWrong)

/-- 'laws.FnExactPutVarintRest': WHATEVER THE INPUT: true; the input reads as it did. -/
def fnExactPutVarintRestSpec : ChangeSpec := { name := "fnExactPutVarintRest", fn := fun _ => fun
  | [d1, d2] => { results := [.lit (.bool true)], args := [d1, d2] }
  | _ => none }
def fnExactPutVarintRestRow : OpenClaim := { program := "ytklebomhnclcgaa", sum := "69f6559cc205fee75fcc8b9f136d677b1155af704a6435e737760a43d27df3c7", func := "loop.example/lib-hexvarint/laws.FnExactPutVarintRest", spec := "fnExactPutVarintRest", unfollowed := true, recurses := true, apart := false }
def FnExactPutVarintRestSaid : Prop := fnExactPutVarintRestRow.holds Try.pinned (OpenSpec.ofChange fnExactPutVarintRestSpec)

/-- ITS FALSE NEIGHBOUR: 'it returns false'. Refute it at one input. -/
def fnExactPutVarintRestWrong : ChangeSpec := { name := "fnExactPutVarintRest", fn := fun _ => fun
  | [d1, d2] => { results := [.lit (.bool false)], args := [d1, d2] }
  | _ => none }
def FnExactPutVarintRestWrongFalsely : Prop := fnExactPutVarintRestRow.holds Try.pinned (OpenSpec.ofChange fnExactPutVarintRestWrong)

/-- 'laws.FnPutRoads': WHATEVER THE INPUT: true; the input reads as it did. -/
def fnPutRoadsSpec : ChangeSpec := { name := "fnPutRoads", fn := fun _ => fun
  | [d1, d2] => { results := [.lit (.bool true)], args := [d1, d2] }
  | _ => none }
def fnPutRoadsRow : OpenClaim := { program := "ytklebomhnclcgaa", sum := "69f6559cc205fee75fcc8b9f136d677b1155af704a6435e737760a43d27df3c7", func := "loop.example/lib-hexvarint/laws.FnPutRoads", spec := "fnPutRoads", unfollowed := true, recurses := true, apart := false }
def FnPutRoadsSaid : Prop := fnPutRoadsRow.holds Try.pinned (OpenSpec.ofChange fnPutRoadsSpec)

/-- ITS FALSE NEIGHBOUR: 'it returns false'. Refute it at one input. -/
def fnPutRoadsWrong : ChangeSpec := { name := "fnPutRoads", fn := fun _ => fun
  | [d1, d2] => { results := [.lit (.bool false)], args := [d1, d2] }
  | _ => none }
def FnPutRoadsWrongFalsely : Prop := fnPutRoadsRow.holds Try.pinned (OpenSpec.ofChange fnPutRoadsWrong)

/-- 'laws.FnPutSignedRoads': WHATEVER THE INPUT: true; the input reads as it did. -/
def fnPutSignedRoadsSpec : ChangeSpec := { name := "fnPutSignedRoads", fn := fun _ => fun
  | [d1, d2] => { results := [.lit (.bool true)], args := [d1, d2] }
  | _ => none }
def fnPutSignedRoadsRow : OpenClaim := { program := "ytklebomhnclcgaa", sum := "69f6559cc205fee75fcc8b9f136d677b1155af704a6435e737760a43d27df3c7", func := "loop.example/lib-hexvarint/laws.FnPutSignedRoads", spec := "fnPutSignedRoads", unfollowed := true, recurses := true, apart := false }
def FnPutSignedRoadsSaid : Prop := fnPutSignedRoadsRow.holds Try.pinned (OpenSpec.ofChange fnPutSignedRoadsSpec)

/-- ITS FALSE NEIGHBOUR: 'it returns false'. Refute it at one input. -/
def fnPutSignedRoadsWrong : ChangeSpec := { name := "fnPutSignedRoads", fn := fun _ => fun
  | [d1, d2] => { results := [.lit (.bool false)], args := [d1, d2] }
  | _ => none }
def FnPutSignedRoadsWrongFalsely : Prop := fnPutSignedRoadsRow.holds Try.pinned (OpenSpec.ofChange fnPutSignedRoadsWrong)

/- THE SECOND FORM. 'bulk': how many values and letters a reading holds, each counted each time it is reached (what is shared counts as often as it is met; a slice's spare places count too). A statement '..UptoSaid' is the law's where the arguments, and the package variables that the reading takes, are together of bulk at most 1048576: NARROWER than '..Said'. Prove '..Said' where nothing that the law and all that it calls make is longer than what came in: it says more and counts as full. Else prove '..UptoSaid'. A law counts once. -/
mutual
def uptoBulk {H : Type} : DataW H → Nat
  | .lit (.string bytes) => bytes.length + 1
  | .lit _ => 1
  | .nil => 1
  | .ptr d => uptoBulk d + 1
  | .slice elems spare => uptoBulkAll elems + uptoBulkAll spare + 1
  | .agg parts => uptoBulkAll parts + 1
  | .iface _ d => uptoBulk d + 1
  | .map entries => uptoBulkEntries entries + 1
  | .held _ => 1
def uptoBulkAll {H : Type} : List (DataW H) → Nat
  | [] => 0
  | d :: r => uptoBulk d + uptoBulkAll r
def uptoBulkEntries {H : Type} : List (Lit × DataW H) → Nat
  | [] => 0
  | x :: r => uptoBulkEntry x + uptoBulkEntries r
def uptoBulkEntry {H : Type} : Lit × DataW H → Nat
  | (.string bytes, d) => bytes.length + uptoBulk d + 1
  | (_, d) => uptoBulk d + 1
 end
def uptoSmall : (H : Type) → List (DataW H) → Bool := fun _ ds => decide (uptoBulkAll ds ≤ 1048576)
def OpenSpec.upto (s : _root_.Go.ChangeSpec) : _root_.Go.OpenSpec := { _root_.Go.OpenSpec.ofChange s with cond := some uptoSmall }

/-- 'laws.FnStreamAll', WHERE WHAT IT READS IS OF BULK AT MOST 1048576: true; the input reads as it did. -/
def fnStreamAllUptoRow : OpenClaim := { program := "ytklebomhnclcgaa", sum := "69f6559cc205fee75fcc8b9f136d677b1155af704a6435e737760a43d27df3c7", func := "loop.example/lib-hexvarint/laws.FnStreamAll", spec := "fnStreamAll", apart := false, narrowed := true }
def FnStreamAllUptoSaid : Prop := fnStreamAllUptoRow.holds Try.pinned (OpenSpec.upto fnStreamAllSpec)

/-- 'laws.FnUvarintNought', WHERE WHAT IT READS IS OF BULK AT MOST 1048576: true; the input reads as it did. -/
def fnUvarintNoughtUptoRow : OpenClaim := { program := "ytklebomhnclcgaa", sum := "69f6559cc205fee75fcc8b9f136d677b1155af704a6435e737760a43d27df3c7", func := "loop.example/lib-hexvarint/laws.FnUvarintNought", spec := "fnUvarintNought", apart := false, narrowed := true }
def FnUvarintNoughtUptoSaid : Prop := fnUvarintNoughtUptoRow.holds Try.pinned (OpenSpec.upto fnUvarintNoughtSpec)

/-- 'laws.FnUvarintShort', WHERE WHAT IT READS IS OF BULK AT MOST 1048576: true; the input reads as it did. -/
def fnUvarintShortUptoRow : OpenClaim := { program := "ytklebomhnclcgaa", sum := "69f6559cc205fee75fcc8b9f136d677b1155af704a6435e737760a43d27df3c7", func := "loop.example/lib-hexvarint/laws.FnUvarintShort", spec := "fnUvarintShort", apart := false, narrowed := true }
def FnUvarintShortUptoSaid : Prop := fnUvarintShortUptoRow.holds Try.pinned (OpenSpec.upto fnUvarintShortSpec)

/-- 'laws.FnUvarintShortest', WHERE WHAT IT READS IS OF BULK AT MOST 1048576: true; the input reads as it did. -/
def fnUvarintShortestUptoRow : OpenClaim := { program := "ytklebomhnclcgaa", sum := "69f6559cc205fee75fcc8b9f136d677b1155af704a6435e737760a43d27df3c7", func := "loop.example/lib-hexvarint/laws.FnUvarintShortest", spec := "fnUvarintShortest", apart := false, narrowed := true }
def FnUvarintShortestUptoSaid : Prop := fnUvarintShortestUptoRow.holds Try.pinned (OpenSpec.upto fnUvarintShortestSpec)

/-- 'laws.FnStreamSigned', WHERE WHAT IT READS IS OF BULK AT MOST 1048576: true; the input reads as it did. -/
def fnStreamSignedUptoRow : OpenClaim := { program := "ytklebomhnclcgaa", sum := "69f6559cc205fee75fcc8b9f136d677b1155af704a6435e737760a43d27df3c7", func := "loop.example/lib-hexvarint/laws.FnStreamSigned", spec := "fnStreamSigned", apart := false, narrowed := true }
def FnStreamSignedUptoSaid : Prop := fnStreamSignedUptoRow.holds Try.pinned (OpenSpec.upto fnStreamSignedSpec)

/-- 'laws.FnExactPutUvarint', WHERE WHAT IT READS IS OF BULK AT MOST 1048576: true; the input reads as it did. -/
def fnExactPutUvarintUptoRow : OpenClaim := { program := "ytklebomhnclcgaa", sum := "69f6559cc205fee75fcc8b9f136d677b1155af704a6435e737760a43d27df3c7", func := "loop.example/lib-hexvarint/laws.FnExactPutUvarint", spec := "fnExactPutUvarint", unfollowed := true, recurses := true, apart := false, narrowed := true }
def FnExactPutUvarintUptoSaid : Prop := fnExactPutUvarintUptoRow.holds Try.pinned (OpenSpec.upto fnExactPutUvarintSpec)

/-- 'laws.FnExactPutUvarintRest', WHERE WHAT IT READS IS OF BULK AT MOST 1048576: true; the input reads as it did. -/
def fnExactPutUvarintRestUptoRow : OpenClaim := { program := "ytklebomhnclcgaa", sum := "69f6559cc205fee75fcc8b9f136d677b1155af704a6435e737760a43d27df3c7", func := "loop.example/lib-hexvarint/laws.FnExactPutUvarintRest", spec := "fnExactPutUvarintRest", unfollowed := true, recurses := true, apart := false, narrowed := true }
def FnExactPutUvarintRestUptoSaid : Prop := fnExactPutUvarintRestUptoRow.holds Try.pinned (OpenSpec.upto fnExactPutUvarintRestSpec)

/-- 'laws.FnExactPutVarint', WHERE WHAT IT READS IS OF BULK AT MOST 1048576: true; the input reads as it did. -/
def fnExactPutVarintUptoRow : OpenClaim := { program := "ytklebomhnclcgaa", sum := "69f6559cc205fee75fcc8b9f136d677b1155af704a6435e737760a43d27df3c7", func := "loop.example/lib-hexvarint/laws.FnExactPutVarint", spec := "fnExactPutVarint", unfollowed := true, recurses := true, apart := false, narrowed := true }
def FnExactPutVarintUptoSaid : Prop := fnExactPutVarintUptoRow.holds Try.pinned (OpenSpec.upto fnExactPutVarintSpec)

/-- 'laws.FnExactPutVarintRest', WHERE WHAT IT READS IS OF BULK AT MOST 1048576: true; the input reads as it did. -/
def fnExactPutVarintRestUptoRow : OpenClaim := { program := "ytklebomhnclcgaa", sum := "69f6559cc205fee75fcc8b9f136d677b1155af704a6435e737760a43d27df3c7", func := "loop.example/lib-hexvarint/laws.FnExactPutVarintRest", spec := "fnExactPutVarintRest", unfollowed := true, recurses := true, apart := false, narrowed := true }
def FnExactPutVarintRestUptoSaid : Prop := fnExactPutVarintRestUptoRow.holds Try.pinned (OpenSpec.upto fnExactPutVarintRestSpec)

/-- 'laws.FnPutRoads', WHERE WHAT IT READS IS OF BULK AT MOST 1048576: true; the input reads as it did. -/
def fnPutRoadsUptoRow : OpenClaim := { program := "ytklebomhnclcgaa", sum := "69f6559cc205fee75fcc8b9f136d677b1155af704a6435e737760a43d27df3c7", func := "loop.example/lib-hexvarint/laws.FnPutRoads", spec := "fnPutRoads", unfollowed := true, recurses := true, apart := false, narrowed := true }
def FnPutRoadsUptoSaid : Prop := fnPutRoadsUptoRow.holds Try.pinned (OpenSpec.upto fnPutRoadsSpec)

/-- 'laws.FnPutSignedRoads', WHERE WHAT IT READS IS OF BULK AT MOST 1048576: true; the input reads as it did. -/
def fnPutSignedRoadsUptoRow : OpenClaim := { program := "ytklebomhnclcgaa", sum := "69f6559cc205fee75fcc8b9f136d677b1155af704a6435e737760a43d27df3c7", func := "loop.example/lib-hexvarint/laws.FnPutSignedRoads", spec := "fnPutSignedRoads", unfollowed := true, recurses := true, apart := false, narrowed := true }
def FnPutSignedRoadsUptoSaid : Prop := fnPutSignedRoadsUptoRow.holds Try.pinned (OpenSpec.upto fnPutSignedRoadsSpec)

end Rows
end Go.Proofs.Ytklebomhnclcgaa
