/-
  No cell of these rows narrows 'for every input' (looked for: loops, veiled, ifaces, maps, wideKeys, modest, calm, conditions, laid).
  DERIVED. THE GIVEN ROWS OF THIS SEAT. 5 by the template 'for every input the law returns true; each argument reads behind the call as it read before'; 0 by the template 'total and deterministic' (their statements: YtcgccoigjcdjeaaTotals.lean).
  GIVEN WITH THE SEED: the statements are not yours to turn. If you find one false, say at which input.
  Laid BY PROGRAM, IN A SANDBOX (cutbox-rows.mjs): the forced cells as the released guide's own fill.sh prints them over the translation 40a581128fadcc97… (all of the seat's roots in one cut). By AI agents, Wed Nov 11 2026. No macro, syntax, notation, axiom, sorry.
-/
import Derived.Test.YtcgccoigjcdjeaaChecked
import GoSem.Claim
import GoSem.ClaimJoined
import GoSem.ClaimMapViews
import Derived.JoinedTies
import Derived.KernelRfl
namespace Go.Proofs.Ytcgccoigjcdjeaa
/- THE CELL 'sum', in the pinned program and in every row, IS THE sha256 OF THE DUMP (.gsa) THAT YtcgccoigjcdjeaaProg.lean LOADS. Nothing in Lean hashes anything: it is a label: what it is worth is what the hold of that sum in a sandbox is worth. -/
noncomputable def Try.pinned : Pinned := { name := "ytcgccoigjcdjeaa", sum := "40a581128fadcc9778ec485fc458f830aa54875463d6bc59e9fbd1988f2535b1", checked := Try.checked }
namespace Rows
def none {H : Type} : Left H := { results := [], args := [] }

/-- 'laws.FnQuorums': WHATEVER THE INPUT: true; the input reads as it did. -/
def fnQuorumsSpec : ChangeSpec := { name := "fnQuorums", fn := fun _ => fun
  | [d1, d2] => { results := [.lit (.bool true)], args := [d1, d2] }
  | _ => none }
def fnQuorumsRow : OpenClaim := { program := "ytcgccoigjcdjeaa", sum := "40a581128fadcc9778ec485fc458f830aa54875463d6bc59e9fbd1988f2535b1", func := "pub-ephorate/laws.FnQuorums", spec := "fnQuorums", unfollowed := true, recurses := true, apart := false }
def FnQuorumsSaid : Prop := fnQuorumsRow.holds Try.pinned (OpenSpec.ofChange fnQuorumsSpec)

/-- ITS FALSE NEIGHBOUR: 'it returns false'. Refute it at one input. -/
def fnQuorumsWrong : ChangeSpec := { name := "fnQuorums", fn := fun _ => fun
  | [d1, d2] => { results := [.lit (.bool false)], args := [d1, d2] }
  | _ => none }
def FnQuorumsWrongFalsely : Prop := fnQuorumsRow.holds Try.pinned (OpenSpec.ofChange fnQuorumsWrong)

/-- 'laws.FnVotes': WHATEVER THE INPUT: true; the input reads as it did. -/
def fnVotesSpec : ChangeSpec := { name := "fnVotes", fn := fun _ => fun
  | [d1, d2] => { results := [.lit (.bool true)], args := [d1, d2] }
  | _ => none }
def fnVotesRow : OpenClaim := { program := "ytcgccoigjcdjeaa", sum := "40a581128fadcc9778ec485fc458f830aa54875463d6bc59e9fbd1988f2535b1", func := "pub-ephorate/laws.FnVotes", spec := "fnVotes", unfollowed := true, recurses := true, apart := false }
def FnVotesSaid : Prop := fnVotesRow.holds Try.pinned (OpenSpec.ofChange fnVotesSpec)

/-- ITS FALSE NEIGHBOUR: 'it returns false'. Refute it at one input. -/
def fnVotesWrong : ChangeSpec := { name := "fnVotes", fn := fun _ => fun
  | [d1, d2] => { results := [.lit (.bool false)], args := [d1, d2] }
  | _ => none }
def FnVotesWrongFalsely : Prop := fnVotesRow.holds Try.pinned (OpenSpec.ofChange fnVotesWrong)

/-- 'laws.FnChanges': WHATEVER THE INPUT: true; the input reads as it did. -/
def fnChangesSpec : ChangeSpec := { name := "fnChanges", fn := fun _ => fun
  | [d1, d2, d3] => { results := [.lit (.bool true)], args := [d1, d2, d3] }
  | _ => none }
def fnChangesRow : OpenClaim := { program := "ytcgccoigjcdjeaa", sum := "40a581128fadcc9778ec485fc458f830aa54875463d6bc59e9fbd1988f2535b1", func := "pub-ephorate/laws.FnChanges", spec := "fnChanges", unfollowed := true, recurses := true, apart := false }
def FnChangesSaid : Prop := fnChangesRow.holds Try.pinned (OpenSpec.ofChange fnChangesSpec)

/-- ITS FALSE NEIGHBOUR: 'it returns false'. Refute it at one input. -/
def fnChangesWrong : ChangeSpec := { name := "fnChanges", fn := fun _ => fun
  | [d1, d2, d3] => { results := [.lit (.bool false)], args := [d1, d2, d3] }
  | _ => none }
def FnChangesWrongFalsely : Prop := fnChangesRow.holds Try.pinned (OpenSpec.ofChange fnChangesWrong)

/-- 'laws.FnQuorumVotes': WHATEVER THE INPUT: true; the input reads as it did. -/
def fnQuorumVotesSpec : ChangeSpec := { name := "fnQuorumVotes", fn := fun _ => fun
  | [d1, d2] => { results := [.lit (.bool true)], args := [d1, d2] }
  | _ => none }
def fnQuorumVotesRow : OpenClaim := { program := "ytcgccoigjcdjeaa", sum := "40a581128fadcc9778ec485fc458f830aa54875463d6bc59e9fbd1988f2535b1", func := "pub-ephorate/laws.FnQuorumVotes", spec := "fnQuorumVotes", unfollowed := true, recurses := true, apart := false }
def FnQuorumVotesSaid : Prop := fnQuorumVotesRow.holds Try.pinned (OpenSpec.ofChange fnQuorumVotesSpec)

/-- ITS FALSE NEIGHBOUR: 'it returns false'. Refute it at one input. -/
def fnQuorumVotesWrong : ChangeSpec := { name := "fnQuorumVotes", fn := fun _ => fun
  | [d1, d2] => { results := [.lit (.bool false)], args := [d1, d2] }
  | _ => none }
def FnQuorumVotesWrongFalsely : Prop := fnQuorumVotesRow.holds Try.pinned (OpenSpec.ofChange fnQuorumVotesWrong)

/-- 'laws.FnChangesOverlap': WHATEVER THE INPUT: true; the input reads as it did. -/
def fnChangesOverlapSpec : ChangeSpec := { name := "fnChangesOverlap", fn := fun _ => fun
  | [d1, d2, d3] => { results := [.lit (.bool true)], args := [d1, d2, d3] }
  | _ => none }
def fnChangesOverlapRow : OpenClaim := { program := "ytcgccoigjcdjeaa", sum := "40a581128fadcc9778ec485fc458f830aa54875463d6bc59e9fbd1988f2535b1", func := "pub-ephorate/laws.FnChangesOverlap", spec := "fnChangesOverlap", unfollowed := true, recurses := true, apart := false }
def FnChangesOverlapSaid : Prop := fnChangesOverlapRow.holds Try.pinned (OpenSpec.ofChange fnChangesOverlapSpec)

/-- ITS FALSE NEIGHBOUR: 'it returns false'. Refute it at one input. -/
def fnChangesOverlapWrong : ChangeSpec := { name := "fnChangesOverlap", fn := fun _ => fun
  | [d1, d2, d3] => { results := [.lit (.bool false)], args := [d1, d2, d3] }
  | _ => none }
def FnChangesOverlapWrongFalsely : Prop := fnChangesOverlapRow.holds Try.pinned (OpenSpec.ofChange fnChangesOverlapWrong)

/- THE SECOND FORM. 'bulk': how many values and letters a reading holds, each counted each time it is reached (what is shared counts as often as it is met; a slice's spare places count too). A statement '..UptoSaid' is the law's where the arguments, and the package variables that the reading takes, are together of bulk at most 1048576: NARROWER than '..Said'. Prove '..Said' where nothing that the law and all that it calls make is longer than what came in: it says more and counts as full. Else prove '..UptoSaid'. A law counts once. -/
mutual
def uptoBulk {H : Type} : DataW H → Nat
  | .lit (.string bytes) => bytes.length + 1
  | .lit _ => 1
  | .nil => 1
  | .ptr d => uptoBulk d + 1
  | .slice elems spare => uptoBulkAll elems + uptoBulkAll spare + 1
  | .agg parts => uptoBulkAll parts + 1
  | .iface _ d => uptoBulk d + 1
  | .map entries => uptoBulkEntries entries + 1
  | .held _ => 1
def uptoBulkAll {H : Type} : List (DataW H) → Nat
  | [] => 0
  | d :: r => uptoBulk d + uptoBulkAll r
def uptoBulkEntries {H : Type} : List (Lit × DataW H) → Nat
  | [] => 0
  | x :: r => uptoBulkEntry x + uptoBulkEntries r
def uptoBulkEntry {H : Type} : Lit × DataW H → Nat
  | (.string bytes, d) => bytes.length + uptoBulk d + 1
  | (_, d) => uptoBulk d + 1
 end
def uptoSmall : (H : Type) → List (DataW H) → Bool := fun _ ds => decide (uptoBulkAll ds ≤ 1048576)
def OpenSpec.upto (s : _root_.Go.ChangeSpec) : _root_.Go.OpenSpec := { _root_.Go.OpenSpec.ofChange s with cond := some uptoSmall }

/-- 'laws.FnQuorums', WHERE WHAT IT READS IS OF BULK AT MOST 1048576: true; the input reads as it did. -/
def fnQuorumsUptoRow : OpenClaim := { program := "ytcgccoigjcdjeaa", sum := "40a581128fadcc9778ec485fc458f830aa54875463d6bc59e9fbd1988f2535b1", func := "pub-ephorate/laws.FnQuorums", spec := "fnQuorums", unfollowed := true, recurses := true, apart := false, narrowed := true }
def FnQuorumsUptoSaid : Prop := fnQuorumsUptoRow.holds Try.pinned (OpenSpec.upto fnQuorumsSpec)

/-- 'laws.FnVotes', WHERE WHAT IT READS IS OF BULK AT MOST 1048576: true; the input reads as it did. -/
def fnVotesUptoRow : OpenClaim := { program := "ytcgccoigjcdjeaa", sum := "40a581128fadcc9778ec485fc458f830aa54875463d6bc59e9fbd1988f2535b1", func := "pub-ephorate/laws.FnVotes", spec := "fnVotes", unfollowed := true, recurses := true, apart := false, narrowed := true }
def FnVotesUptoSaid : Prop := fnVotesUptoRow.holds Try.pinned (OpenSpec.upto fnVotesSpec)

/-- 'laws.FnChanges', WHERE WHAT IT READS IS OF BULK AT MOST 1048576: true; the input reads as it did. -/
def fnChangesUptoRow : OpenClaim := { program := "ytcgccoigjcdjeaa", sum := "40a581128fadcc9778ec485fc458f830aa54875463d6bc59e9fbd1988f2535b1", func := "pub-ephorate/laws.FnChanges", spec := "fnChanges", unfollowed := true, recurses := true, apart := false, narrowed := true }
def FnChangesUptoSaid : Prop := fnChangesUptoRow.holds Try.pinned (OpenSpec.upto fnChangesSpec)

/-- 'laws.FnQuorumVotes', WHERE WHAT IT READS IS OF BULK AT MOST 1048576: true; the input reads as it did. -/
def fnQuorumVotesUptoRow : OpenClaim := { program := "ytcgccoigjcdjeaa", sum := "40a581128fadcc9778ec485fc458f830aa54875463d6bc59e9fbd1988f2535b1", func := "pub-ephorate/laws.FnQuorumVotes", spec := "fnQuorumVotes", unfollowed := true, recurses := true, apart := false, narrowed := true }
def FnQuorumVotesUptoSaid : Prop := fnQuorumVotesUptoRow.holds Try.pinned (OpenSpec.upto fnQuorumVotesSpec)

/-- 'laws.FnChangesOverlap', WHERE WHAT IT READS IS OF BULK AT MOST 1048576: true; the input reads as it did. -/
def fnChangesOverlapUptoRow : OpenClaim := { program := "ytcgccoigjcdjeaa", sum := "40a581128fadcc9778ec485fc458f830aa54875463d6bc59e9fbd1988f2535b1", func := "pub-ephorate/laws.FnChangesOverlap", spec := "fnChangesOverlap", unfollowed := true, recurses := true, apart := false, narrowed := true }
def FnChangesOverlapUptoSaid : Prop := fnChangesOverlapUptoRow.holds Try.pinned (OpenSpec.upto fnChangesOverlapSpec)

end Rows
end Go.Proofs.Ytcgccoigjcdjeaa
