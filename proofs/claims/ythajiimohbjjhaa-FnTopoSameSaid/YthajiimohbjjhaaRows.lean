/-
  No cell of these rows narrows 'for every input' (looked for: loops, veiled, ifaces, maps, wideKeys, modest, calm, conditions, laid).
  DERIVED. THE GIVEN ROWS OF THIS SEAT. 10 by the template 'for every input the law returns true; each argument reads behind the call as it read before'; 0 by the template 'total and deterministic' (their statements: YthajiimohbjjhaaTotals.lean).
  GIVEN WITH THE SEED: the statements are not yours to turn. If you find one false, say at which input.
  Laid BY PROGRAM, IN A SANDBOX (cutbox-rows.mjs): the forced cells as the released guide's own fill.sh prints them over the translation a8492e229a23e6df… (all of the seat's roots in one cut). By AI agents, Wed Nov 11 2026. No macro, syntax, notation, axiom, sorry.
-/
import Derived.Test.YthajiimohbjjhaaChecked
import GoSem.Claim
import GoSem.ClaimJoined
import GoSem.ClaimMapViews
import Derived.JoinedTies
import Derived.KernelRfl
namespace Go.Proofs.Ythajiimohbjjhaa
/- THE CELL 'sum', in the pinned program and in every row, IS THE sha256 OF THE DUMP (.gsa) THAT YthajiimohbjjhaaProg.lean LOADS. Nothing in Lean hashes anything: it is a label: what it is worth is what the hold of that sum in a sandbox is worth. -/
noncomputable def Try.pinned : Pinned := { name := "ythajiimohbjjhaa", sum := "a8492e229a23e6dff2872c1a1b3cae31b896c55f13790f762afb22d39dc0550f", checked := Try.checked }
namespace Rows
def none {H : Type} : Left H := { results := [], args := [] }

/-- 'laws.FnRun': WHATEVER THE INPUT: true; the input reads as it did. -/
def fnRunSpec : ChangeSpec := { name := "fnRun", fn := fun _ => fun
  | [d] => { results := [.lit (.bool true)], args := [d] }
  | _ => none }
def fnRunRow : OpenClaim := { program := "ythajiimohbjjhaa", sum := "a8492e229a23e6dff2872c1a1b3cae31b896c55f13790f762afb22d39dc0550f", func := "loop.example/pub-graphsofrules/laws.FnRun", spec := "fnRun", apart := false }
def FnRunSaid : Prop := fnRunRow.holds Try.pinned (OpenSpec.ofChange fnRunSpec)

/-- ITS FALSE NEIGHBOUR: 'it returns false'. Refute it at one input. -/
def fnRunWrong : ChangeSpec := { name := "fnRun", fn := fun _ => fun
  | [d] => { results := [.lit (.bool false)], args := [d] }
  | _ => none }
def FnRunWrongFalsely : Prop := fnRunRow.holds Try.pinned (OpenSpec.ofChange fnRunWrong)

/-- 'laws.FnEdges': WHATEVER THE INPUT: true; the input reads as it did. -/
def fnEdgesSpec : ChangeSpec := { name := "fnEdges", fn := fun _ => fun
  | [d1, d2, d3] => { results := [.lit (.bool true)], args := [d1, d2, d3] }
  | _ => none }
def fnEdgesRow : OpenClaim := { program := "ythajiimohbjjhaa", sum := "a8492e229a23e6dff2872c1a1b3cae31b896c55f13790f762afb22d39dc0550f", func := "loop.example/pub-graphsofrules/laws.FnEdges", spec := "fnEdges", unfollowed := true, recurses := true, apart := false }
def FnEdgesSaid : Prop := fnEdgesRow.holds Try.pinned (OpenSpec.ofChange fnEdgesSpec)

/-- ITS FALSE NEIGHBOUR: 'it returns false'. Refute it at one input. -/
def fnEdgesWrong : ChangeSpec := { name := "fnEdges", fn := fun _ => fun
  | [d1, d2, d3] => { results := [.lit (.bool false)], args := [d1, d2, d3] }
  | _ => none }
def FnEdgesWrongFalsely : Prop := fnEdgesRow.holds Try.pinned (OpenSpec.ofChange fnEdgesWrong)

/-- 'laws.FnEdgesOrder': WHATEVER THE INPUT: true; the input reads as it did. -/
def fnEdgesOrderSpec : ChangeSpec := { name := "fnEdgesOrder", fn := fun _ => fun
  | [d1, d2, d3] => { results := [.lit (.bool true)], args := [d1, d2, d3] }
  | _ => none }
def fnEdgesOrderRow : OpenClaim := { program := "ythajiimohbjjhaa", sum := "a8492e229a23e6dff2872c1a1b3cae31b896c55f13790f762afb22d39dc0550f", func := "loop.example/pub-graphsofrules/laws.FnEdgesOrder", spec := "fnEdgesOrder", unfollowed := true, recurses := true, apart := false }
def FnEdgesOrderSaid : Prop := fnEdgesOrderRow.holds Try.pinned (OpenSpec.ofChange fnEdgesOrderSpec)

/-- ITS FALSE NEIGHBOUR: 'it returns false'. Refute it at one input. -/
def fnEdgesOrderWrong : ChangeSpec := { name := "fnEdgesOrder", fn := fun _ => fun
  | [d1, d2, d3] => { results := [.lit (.bool false)], args := [d1, d2, d3] }
  | _ => none }
def FnEdgesOrderWrongFalsely : Prop := fnEdgesOrderRow.holds Try.pinned (OpenSpec.ofChange fnEdgesOrderWrong)

/-- 'laws.FnTopo': WHATEVER THE INPUT: true; the input reads as it did. -/
def fnTopoSpec : ChangeSpec := { name := "fnTopo", fn := fun _ => fun
  | [d1, d2] => { results := [.lit (.bool true)], args := [d1, d2] }
  | _ => none }
def fnTopoRow : OpenClaim := { program := "ythajiimohbjjhaa", sum := "a8492e229a23e6dff2872c1a1b3cae31b896c55f13790f762afb22d39dc0550f", func := "loop.example/pub-graphsofrules/laws.FnTopo", spec := "fnTopo", unfollowed := true, recurses := true, apart := false }
def FnTopoSaid : Prop := fnTopoRow.holds Try.pinned (OpenSpec.ofChange fnTopoSpec)

/-- ITS FALSE NEIGHBOUR: 'it returns false'. Refute it at one input. -/
def fnTopoWrong : ChangeSpec := { name := "fnTopo", fn := fun _ => fun
  | [d1, d2] => { results := [.lit (.bool false)], args := [d1, d2] }
  | _ => none }
def FnTopoWrongFalsely : Prop := fnTopoRow.holds Try.pinned (OpenSpec.ofChange fnTopoWrong)

/-- 'laws.FnTopoSame': WHATEVER THE INPUT: true; the input reads as it did. -/
def fnTopoSameSpec : ChangeSpec := { name := "fnTopoSame", fn := fun _ => fun
  | [d1, d2, d3] => { results := [.lit (.bool true)], args := [d1, d2, d3] }
  | _ => none }
def fnTopoSameRow : OpenClaim := { program := "ythajiimohbjjhaa", sum := "a8492e229a23e6dff2872c1a1b3cae31b896c55f13790f762afb22d39dc0550f", func := "loop.example/pub-graphsofrules/laws.FnTopoSame", spec := "fnTopoSame", unfollowed := true, recurses := true, apart := false }
def FnTopoSameSaid : Prop := fnTopoSameRow.holds Try.pinned (OpenSpec.ofChange fnTopoSameSpec)

/-- ITS FALSE NEIGHBOUR: 'it returns false'. Refute it at one input. -/
def fnTopoSameWrong : ChangeSpec := { name := "fnTopoSame", fn := fun _ => fun
  | [d1, d2, d3] => { results := [.lit (.bool false)], args := [d1, d2, d3] }
  | _ => none }
def FnTopoSameWrongFalsely : Prop := fnTopoSameRow.holds Try.pinned (OpenSpec.ofChange fnTopoSameWrong)

/-- 'laws.FnTranspose': WHATEVER THE INPUT: true; the input reads as it did. -/
def fnTransposeSpec : ChangeSpec := { name := "fnTranspose", fn := fun _ => fun
  | [d1, d2] => { results := [.lit (.bool true)], args := [d1, d2] }
  | _ => none }
def fnTransposeRow : OpenClaim := { program := "ythajiimohbjjhaa", sum := "a8492e229a23e6dff2872c1a1b3cae31b896c55f13790f762afb22d39dc0550f", func := "loop.example/pub-graphsofrules/laws.FnTranspose", spec := "fnTranspose", unfollowed := true, recurses := true, apart := false }
def FnTransposeSaid : Prop := fnTransposeRow.holds Try.pinned (OpenSpec.ofChange fnTransposeSpec)

/-- ITS FALSE NEIGHBOUR: 'it returns false'. Refute it at one input. -/
def fnTransposeWrong : ChangeSpec := { name := "fnTranspose", fn := fun _ => fun
  | [d1, d2] => { results := [.lit (.bool false)], args := [d1, d2] }
  | _ => none }
def FnTransposeWrongFalsely : Prop := fnTransposeRow.holds Try.pinned (OpenSpec.ofChange fnTransposeWrong)

/-- 'laws.FnTransposeTwice': WHATEVER THE INPUT: true; the input reads as it did. -/
def fnTransposeTwiceSpec : ChangeSpec := { name := "fnTransposeTwice", fn := fun _ => fun
  | [d1, d2] => { results := [.lit (.bool true)], args := [d1, d2] }
  | _ => none }
def fnTransposeTwiceRow : OpenClaim := { program := "ythajiimohbjjhaa", sum := "a8492e229a23e6dff2872c1a1b3cae31b896c55f13790f762afb22d39dc0550f", func := "loop.example/pub-graphsofrules/laws.FnTransposeTwice", spec := "fnTransposeTwice", unfollowed := true, recurses := true, apart := false }
def FnTransposeTwiceSaid : Prop := fnTransposeTwiceRow.holds Try.pinned (OpenSpec.ofChange fnTransposeTwiceSpec)

/-- ITS FALSE NEIGHBOUR: 'it returns false'. Refute it at one input. -/
def fnTransposeTwiceWrong : ChangeSpec := { name := "fnTransposeTwice", fn := fun _ => fun
  | [d1, d2] => { results := [.lit (.bool false)], args := [d1, d2] }
  | _ => none }
def FnTransposeTwiceWrongFalsely : Prop := fnTransposeTwiceRow.holds Try.pinned (OpenSpec.ofChange fnTransposeTwiceWrong)

/-- 'laws.FnReduce': WHATEVER THE INPUT: true; the input reads as it did. -/
def fnReduceSpec : ChangeSpec := { name := "fnReduce", fn := fun _ => fun
  | [d1, d2] => { results := [.lit (.bool true)], args := [d1, d2] }
  | _ => none }
def fnReduceRow : OpenClaim := { program := "ythajiimohbjjhaa", sum := "a8492e229a23e6dff2872c1a1b3cae31b896c55f13790f762afb22d39dc0550f", func := "loop.example/pub-graphsofrules/laws.FnReduce", spec := "fnReduce", unfollowed := true, recurses := true, apart := false }
def FnReduceSaid : Prop := fnReduceRow.holds Try.pinned (OpenSpec.ofChange fnReduceSpec)

/-- ITS FALSE NEIGHBOUR: 'it returns false'. Refute it at one input. -/
def fnReduceWrong : ChangeSpec := { name := "fnReduce", fn := fun _ => fun
  | [d1, d2] => { results := [.lit (.bool false)], args := [d1, d2] }
  | _ => none }
def FnReduceWrongFalsely : Prop := fnReduceRow.holds Try.pinned (OpenSpec.ofChange fnReduceWrong)

/-- 'laws.FnReduceBack': WHATEVER THE INPUT: true; the input reads as it did. -/
def fnReduceBackSpec : ChangeSpec := { name := "fnReduceBack", fn := fun _ => fun
  | [d1, d2] => { results := [.lit (.bool true)], args := [d1, d2] }
  | _ => none }
def fnReduceBackRow : OpenClaim := { program := "ythajiimohbjjhaa", sum := "a8492e229a23e6dff2872c1a1b3cae31b896c55f13790f762afb22d39dc0550f", func := "loop.example/pub-graphsofrules/laws.FnReduceBack", spec := "fnReduceBack", unfollowed := true, recurses := true, apart := false }
def FnReduceBackSaid : Prop := fnReduceBackRow.holds Try.pinned (OpenSpec.ofChange fnReduceBackSpec)

/-- ITS FALSE NEIGHBOUR: 'it returns false'. Refute it at one input. -/
def fnReduceBackWrong : ChangeSpec := { name := "fnReduceBack", fn := fun _ => fun
  | [d1, d2] => { results := [.lit (.bool false)], args := [d1, d2] }
  | _ => none }
def FnReduceBackWrongFalsely : Prop := fnReduceBackRow.holds Try.pinned (OpenSpec.ofChange fnReduceBackWrong)

/-- 'laws.FnTopoBack': WHATEVER THE INPUT: true; the input reads as it did. -/
def fnTopoBackSpec : ChangeSpec := { name := "fnTopoBack", fn := fun _ => fun
  | [d1, d2] => { results := [.lit (.bool true)], args := [d1, d2] }
  | _ => none }
def fnTopoBackRow : OpenClaim := { program := "ythajiimohbjjhaa", sum := "a8492e229a23e6dff2872c1a1b3cae31b896c55f13790f762afb22d39dc0550f", func := "loop.example/pub-graphsofrules/laws.FnTopoBack", spec := "fnTopoBack", unfollowed := true, recurses := true, apart := false }
def FnTopoBackSaid : Prop := fnTopoBackRow.holds Try.pinned (OpenSpec.ofChange fnTopoBackSpec)

/-- ITS FALSE NEIGHBOUR: 'it returns false'. Refute it at one input. -/
def fnTopoBackWrong : ChangeSpec := { name := "fnTopoBack", fn := fun _ => fun
  | [d1, d2] => { results := [.lit (.bool false)], args := [d1, d2] }
  | _ => none }
def FnTopoBackWrongFalsely : Prop := fnTopoBackRow.holds Try.pinned (OpenSpec.ofChange fnTopoBackWrong)

/- THE SECOND FORM. 'bulk': how many values and letters a reading holds, each counted each time it is reached (what is shared counts as often as it is met; a slice's spare places count too). A statement '..UptoSaid' is the law's where the arguments, and the package variables that the reading takes, are together of bulk at most 1048576: NARROWER than '..Said'. Prove '..Said' where nothing that the law and all that it calls make is longer than what came in: it says more and counts as full. Else prove '..UptoSaid'. A law counts once. -/
mutual
def uptoBulk {H : Type} : DataW H → Nat
  | .lit (.string bytes) => bytes.length + 1
  | .lit _ => 1
  | .nil => 1
  | .ptr d => uptoBulk d + 1
  | .slice elems spare => uptoBulkAll elems + uptoBulkAll spare + 1
  | .agg parts => uptoBulkAll parts + 1
  | .iface _ d => uptoBulk d + 1
  | .map entries => uptoBulkEntries entries + 1
  | .held _ => 1
def uptoBulkAll {H : Type} : List (DataW H) → Nat
  | [] => 0
  | d :: r => uptoBulk d + uptoBulkAll r
def uptoBulkEntries {H : Type} : List (Lit × DataW H) → Nat
  | [] => 0
  | x :: r => uptoBulkEntry x + uptoBulkEntries r
def uptoBulkEntry {H : Type} : Lit × DataW H → Nat
  | (.string bytes, d) => bytes.length + uptoBulk d + 1
  | (_, d) => uptoBulk d + 1
 end
def uptoSmall : (H : Type) → List (DataW H) → Bool := fun _ ds => decide (uptoBulkAll ds ≤ 1048576)
def OpenSpec.upto (s : _root_.Go.ChangeSpec) : _root_.Go.OpenSpec := { _root_.Go.OpenSpec.ofChange s with cond := some uptoSmall }

/-- 'laws.FnRun', WHERE WHAT IT READS IS OF BULK AT MOST 1048576: true; the input reads as it did. -/
def fnRunUptoRow : OpenClaim := { program := "ythajiimohbjjhaa", sum := "a8492e229a23e6dff2872c1a1b3cae31b896c55f13790f762afb22d39dc0550f", func := "loop.example/pub-graphsofrules/laws.FnRun", spec := "fnRun", apart := false, narrowed := true }
def FnRunUptoSaid : Prop := fnRunUptoRow.holds Try.pinned (OpenSpec.upto fnRunSpec)

/-- 'laws.FnEdges', WHERE WHAT IT READS IS OF BULK AT MOST 1048576: true; the input reads as it did. -/
def fnEdgesUptoRow : OpenClaim := { program := "ythajiimohbjjhaa", sum := "a8492e229a23e6dff2872c1a1b3cae31b896c55f13790f762afb22d39dc0550f", func := "loop.example/pub-graphsofrules/laws.FnEdges", spec := "fnEdges", unfollowed := true, recurses := true, apart := false, narrowed := true }
def FnEdgesUptoSaid : Prop := fnEdgesUptoRow.holds Try.pinned (OpenSpec.upto fnEdgesSpec)

/-- 'laws.FnEdgesOrder', WHERE WHAT IT READS IS OF BULK AT MOST 1048576: true; the input reads as it did. -/
def fnEdgesOrderUptoRow : OpenClaim := { program := "ythajiimohbjjhaa", sum := "a8492e229a23e6dff2872c1a1b3cae31b896c55f13790f762afb22d39dc0550f", func := "loop.example/pub-graphsofrules/laws.FnEdgesOrder", spec := "fnEdgesOrder", unfollowed := true, recurses := true, apart := false, narrowed := true }
def FnEdgesOrderUptoSaid : Prop := fnEdgesOrderUptoRow.holds Try.pinned (OpenSpec.upto fnEdgesOrderSpec)

/-- 'laws.FnTopo', WHERE WHAT IT READS IS OF BULK AT MOST 1048576: true; the input reads as it did. -/
def fnTopoUptoRow : OpenClaim := { program := "ythajiimohbjjhaa", sum := "a8492e229a23e6dff2872c1a1b3cae31b896c55f13790f762afb22d39dc0550f", func := "loop.example/pub-graphsofrules/laws.FnTopo", spec := "fnTopo", unfollowed := true, recurses := true, apart := false, narrowed := true }
def FnTopoUptoSaid : Prop := fnTopoUptoRow.holds Try.pinned (OpenSpec.upto fnTopoSpec)

/-- 'laws.FnTopoSame', WHERE WHAT IT READS IS OF BULK AT MOST 1048576: true; the input reads as it did. -/
def fnTopoSameUptoRow : OpenClaim := { program := "ythajiimohbjjhaa", sum := "a8492e229a23e6dff2872c1a1b3cae31b896c55f13790f762afb22d39dc0550f", func := "loop.example/pub-graphsofrules/laws.FnTopoSame", spec := "fnTopoSame", unfollowed := true, recurses := true, apart := false, narrowed := true }
def FnTopoSameUptoSaid : Prop := fnTopoSameUptoRow.holds Try.pinned (OpenSpec.upto fnTopoSameSpec)

/-- 'laws.FnTranspose', WHERE WHAT IT READS IS OF BULK AT MOST 1048576: true; the input reads as it did. -/
def fnTransposeUptoRow : OpenClaim := { program := "ythajiimohbjjhaa", sum := "a8492e229a23e6dff2872c1a1b3cae31b896c55f13790f762afb22d39dc0550f", func := "loop.example/pub-graphsofrules/laws.FnTranspose", spec := "fnTranspose", unfollowed := true, recurses := true, apart := false, narrowed := true }
def FnTransposeUptoSaid : Prop := fnTransposeUptoRow.holds Try.pinned (OpenSpec.upto fnTransposeSpec)

/-- 'laws.FnTransposeTwice', WHERE WHAT IT READS IS OF BULK AT MOST 1048576: true; the input reads as it did. -/
def fnTransposeTwiceUptoRow : OpenClaim := { program := "ythajiimohbjjhaa", sum := "a8492e229a23e6dff2872c1a1b3cae31b896c55f13790f762afb22d39dc0550f", func := "loop.example/pub-graphsofrules/laws.FnTransposeTwice", spec := "fnTransposeTwice", unfollowed := true, recurses := true, apart := false, narrowed := true }
def FnTransposeTwiceUptoSaid : Prop := fnTransposeTwiceUptoRow.holds Try.pinned (OpenSpec.upto fnTransposeTwiceSpec)

/-- 'laws.FnReduce', WHERE WHAT IT READS IS OF BULK AT MOST 1048576: true; the input reads as it did. -/
def fnReduceUptoRow : OpenClaim := { program := "ythajiimohbjjhaa", sum := "a8492e229a23e6dff2872c1a1b3cae31b896c55f13790f762afb22d39dc0550f", func := "loop.example/pub-graphsofrules/laws.FnReduce", spec := "fnReduce", unfollowed := true, recurses := true, apart := false, narrowed := true }
def FnReduceUptoSaid : Prop := fnReduceUptoRow.holds Try.pinned (OpenSpec.upto fnReduceSpec)

/-- 'laws.FnReduceBack', WHERE WHAT IT READS IS OF BULK AT MOST 1048576: true; the input reads as it did. -/
def fnReduceBackUptoRow : OpenClaim := { program := "ythajiimohbjjhaa", sum := "a8492e229a23e6dff2872c1a1b3cae31b896c55f13790f762afb22d39dc0550f", func := "loop.example/pub-graphsofrules/laws.FnReduceBack", spec := "fnReduceBack", unfollowed := true, recurses := true, apart := false, narrowed := true }
def FnReduceBackUptoSaid : Prop := fnReduceBackUptoRow.holds Try.pinned (OpenSpec.upto fnReduceBackSpec)

/-- 'laws.FnTopoBack', WHERE WHAT IT READS IS OF BULK AT MOST 1048576: true; the input reads as it did. -/
def fnTopoBackUptoRow : OpenClaim := { program := "ythajiimohbjjhaa", sum := "a8492e229a23e6dff2872c1a1b3cae31b896c55f13790f762afb22d39dc0550f", func := "loop.example/pub-graphsofrules/laws.FnTopoBack", spec := "fnTopoBack", unfollowed := true, recurses := true, apart := false, narrowed := true }
def FnTopoBackUptoSaid : Prop := fnTopoBackUptoRow.holds Try.pinned (OpenSpec.upto fnTopoBackSpec)

end Rows
end Go.Proofs.Ythajiimohbjjhaa
