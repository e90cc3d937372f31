/-
  No cell of these rows narrows 'for every input' (looked for: loops, veiled, ifaces, maps, wideKeys, modest, calm, conditions, laid).
  DERIVED. THE GIVEN ROWS OF THIS SEAT. 4 by the template 'for every input the law returns true; each argument reads behind the call as it read before'; 0 by the template 'total and deterministic' (their statements: YtpjnmdeeoafclaaTotals.lean).
  GIVEN WITH THE SEED: the statements are not yours to turn. If you find one false, say at which input.
  Laid BY PROGRAM, IN A SANDBOX (cutbox-rows.mjs): the forced cells as the released guide's own fill.sh prints them over the translation c2d5b160a1312786… (all of the seat's roots in one cut). By AI agents, Wed Nov 11 2026. No macro, syntax, notation, axiom, sorry.
-/
import Derived.Test.YtpjnmdeeoafclaaChecked
import GoSem.Claim
import GoSem.ClaimJoined
import GoSem.ClaimMapViews
import Derived.JoinedTies
import Derived.KernelRfl
namespace Go.Proofs.Ytpjnmdeeoafclaa
/- THE CELL 'sum', in the pinned program and in every row, IS THE sha256 OF THE DUMP (.gsa) THAT YtpjnmdeeoafclaaProg.lean LOADS. Nothing in Lean hashes anything: it is a label: what it is worth is what the hold of that sum in a sandbox is worth. -/
noncomputable def Try.pinned : Pinned := { name := "ytpjnmdeeoafclaa", sum := "c2d5b160a13127868c45964cdaf8bc901c0e779bd308e612a232a6b41af4c6c6", checked := Try.checked }
namespace Rows
def none {H : Type} : Left H := { results := [], args := [] }

/-- 'laws.FnKeyAnswers': WHATEVER THE INPUT: true; the input reads as it did. -/
def fnKeyAnswersSpec : ChangeSpec := { name := "fnKeyAnswers", fn := fun _ => fun
  | [d1, d2] => { results := [.lit (.bool true)], args := [d1, d2] }
  | _ => none }
def fnKeyAnswersRow : OpenClaim := { program := "ytpjnmdeeoafclaa", sum := "c2d5b160a13127868c45964cdaf8bc901c0e779bd308e612a232a6b41af4c6c6", func := "pub-stadtholder/laws.FnKeyAnswers", spec := "fnKeyAnswers", unfollowed := true, recurses := true, plainKeys := false, apart := false }
def FnKeyAnswersSaid : Prop := fnKeyAnswersRow.holds Try.pinned (OpenSpec.ofChange fnKeyAnswersSpec)

/-- ITS FALSE NEIGHBOUR: 'it returns false'. Refute it at one input. -/
def fnKeyAnswersWrong : ChangeSpec := { name := "fnKeyAnswers", fn := fun _ => fun
  | [d1, d2] => { results := [.lit (.bool false)], args := [d1, d2] }
  | _ => none }
def FnKeyAnswersWrongFalsely : Prop := fnKeyAnswersRow.holds Try.pinned (OpenSpec.ofChange fnKeyAnswersWrong)

/-- 'laws.FnKeyEmpty': WHATEVER THE INPUT: true; the input reads as it did. -/
def fnKeyEmptySpec : ChangeSpec := { name := "fnKeyEmpty", fn := fun _ => fun
  | [d1, d2] => { results := [.lit (.bool true)], args := [d1, d2] }
  | _ => none }
def fnKeyEmptyRow : OpenClaim := { program := "ytpjnmdeeoafclaa", sum := "c2d5b160a13127868c45964cdaf8bc901c0e779bd308e612a232a6b41af4c6c6", func := "pub-stadtholder/laws.FnKeyEmpty", spec := "fnKeyEmpty", unfollowed := true, recurses := true, plainKeys := false, apart := false }
def FnKeyEmptySaid : Prop := fnKeyEmptyRow.holds Try.pinned (OpenSpec.ofChange fnKeyEmptySpec)

/-- ITS FALSE NEIGHBOUR: 'it returns false'. Refute it at one input. -/
def fnKeyEmptyWrong : ChangeSpec := { name := "fnKeyEmpty", fn := fun _ => fun
  | [d1, d2] => { results := [.lit (.bool false)], args := [d1, d2] }
  | _ => none }
def FnKeyEmptyWrongFalsely : Prop := fnKeyEmptyRow.holds Try.pinned (OpenSpec.ofChange fnKeyEmptyWrong)

/-- 'laws.FnKeyRestoresEnd': WHATEVER THE INPUT: true; the input reads as it did. -/
def fnKeyRestoresEndSpec : ChangeSpec := { name := "fnKeyRestoresEnd", fn := fun _ => fun
  | [d1, d2, d3] => { results := [.lit (.bool true)], args := [d1, d2, d3] }
  | _ => none }
def fnKeyRestoresEndRow : OpenClaim := { program := "ytpjnmdeeoafclaa", sum := "c2d5b160a13127868c45964cdaf8bc901c0e779bd308e612a232a6b41af4c6c6", func := "pub-stadtholder/laws.FnKeyRestoresEnd", spec := "fnKeyRestoresEnd", unfollowed := true, recurses := true, plainKeys := false, apart := false }
def FnKeyRestoresEndSaid : Prop := fnKeyRestoresEndRow.holds Try.pinned (OpenSpec.ofChange fnKeyRestoresEndSpec)

/-- ITS FALSE NEIGHBOUR: 'it returns false'. Refute it at one input. -/
def fnKeyRestoresEndWrong : ChangeSpec := { name := "fnKeyRestoresEnd", fn := fun _ => fun
  | [d1, d2, d3] => { results := [.lit (.bool false)], args := [d1, d2, d3] }
  | _ => none }
def FnKeyRestoresEndWrongFalsely : Prop := fnKeyRestoresEndRow.holds Try.pinned (OpenSpec.ofChange fnKeyRestoresEndWrong)

/-- 'laws.FnWalk': WHATEVER THE INPUT: true; the input reads as it did. -/
def fnWalkSpec : ChangeSpec := { name := "fnWalk", fn := fun _ => fun
  | [d1, d2] => { results := [.lit (.bool true)], args := [d1, d2] }
  | _ => none }
def fnWalkRow : OpenClaim := { program := "ytpjnmdeeoafclaa", sum := "c2d5b160a13127868c45964cdaf8bc901c0e779bd308e612a232a6b41af4c6c6", func := "pub-stadtholder/laws.FnWalk", spec := "fnWalk", unfollowed := true, recurses := true, plainKeys := false, apart := false }
def FnWalkSaid : Prop := fnWalkRow.holds Try.pinned (OpenSpec.ofChange fnWalkSpec)

/-- ITS FALSE NEIGHBOUR: 'it returns false'. Refute it at one input. -/
def fnWalkWrong : ChangeSpec := { name := "fnWalk", fn := fun _ => fun
  | [d1, d2] => { results := [.lit (.bool false)], args := [d1, d2] }
  | _ => none }
def FnWalkWrongFalsely : Prop := fnWalkRow.holds Try.pinned (OpenSpec.ofChange fnWalkWrong)

/- THE SECOND FORM. 'bulk': how many values and letters a reading holds, each counted each time it is reached (what is shared counts as often as it is met; a slice's spare places count too). A statement '..UptoSaid' is the law's where the arguments, and the package variables that the reading takes, are together of bulk at most 1048576: NARROWER than '..Said'. Prove '..Said' where nothing that the law and all that it calls make is longer than what came in: it says more and counts as full. Else prove '..UptoSaid'. A law counts once. -/
mutual
def uptoBulk {H : Type} : DataW H → Nat
  | .lit (.string bytes) => bytes.length + 1
  | .lit _ => 1
  | .nil => 1
  | .ptr d => uptoBulk d + 1
  | .slice elems spare => uptoBulkAll elems + uptoBulkAll spare + 1
  | .agg parts => uptoBulkAll parts + 1
  | .iface _ d => uptoBulk d + 1
  | .map entries => uptoBulkEntries entries + 1
  | .held _ => 1
def uptoBulkAll {H : Type} : List (DataW H) → Nat
  | [] => 0
  | d :: r => uptoBulk d + uptoBulkAll r
def uptoBulkEntries {H : Type} : List (Lit × DataW H) → Nat
  | [] => 0
  | x :: r => uptoBulkEntry x + uptoBulkEntries r
def uptoBulkEntry {H : Type} : Lit × DataW H → Nat
  | (.string bytes, d) => bytes.length + uptoBulk d + 1
  | (_, d) => uptoBulk d + 1
 end
def uptoSmall : (H : Type) → List (DataW H) → Bool := fun _ ds => decide (uptoBulkAll ds ≤ 1048576)
def OpenSpec.upto (s : _root_.Go.ChangeSpec) : _root_.Go.OpenSpec := { _root_.Go.OpenSpec.ofChange s with cond := some uptoSmall }

/-- 'laws.FnKeyAnswers', WHERE WHAT IT READS IS OF BULK AT MOST 1048576: true; the input reads as it did. -/
def fnKeyAnswersUptoRow : OpenClaim := { program := "ytpjnmdeeoafclaa", sum := "c2d5b160a13127868c45964cdaf8bc901c0e779bd308e612a232a6b41af4c6c6", func := "pub-stadtholder/laws.FnKeyAnswers", spec := "fnKeyAnswers", unfollowed := true, recurses := true, plainKeys := false, apart := false, narrowed := true }
def FnKeyAnswersUptoSaid : Prop := fnKeyAnswersUptoRow.holds Try.pinned (OpenSpec.upto fnKeyAnswersSpec)

/-- 'laws.FnKeyEmpty', WHERE WHAT IT READS IS OF BULK AT MOST 1048576: true; the input reads as it did. -/
def fnKeyEmptyUptoRow : OpenClaim := { program := "ytpjnmdeeoafclaa", sum := "c2d5b160a13127868c45964cdaf8bc901c0e779bd308e612a232a6b41af4c6c6", func := "pub-stadtholder/laws.FnKeyEmpty", spec := "fnKeyEmpty", unfollowed := true, recurses := true, plainKeys := false, apart := false, narrowed := true }
def FnKeyEmptyUptoSaid : Prop := fnKeyEmptyUptoRow.holds Try.pinned (OpenSpec.upto fnKeyEmptySpec)

/-- 'laws.FnKeyRestoresEnd', WHERE WHAT IT READS IS OF BULK AT MOST 1048576: true; the input reads as it did. -/
def fnKeyRestoresEndUptoRow : OpenClaim := { program := "ytpjnmdeeoafclaa", sum := "c2d5b160a13127868c45964cdaf8bc901c0e779bd308e612a232a6b41af4c6c6", func := "pub-stadtholder/laws.FnKeyRestoresEnd", spec := "fnKeyRestoresEnd", unfollowed := true, recurses := true, plainKeys := false, apart := false, narrowed := true }
def FnKeyRestoresEndUptoSaid : Prop := fnKeyRestoresEndUptoRow.holds Try.pinned (OpenSpec.upto fnKeyRestoresEndSpec)

/-- 'laws.FnWalk', WHERE WHAT IT READS IS OF BULK AT MOST 1048576: true; the input reads as it did. -/
def fnWalkUptoRow : OpenClaim := { program := "ytpjnmdeeoafclaa", sum := "c2d5b160a13127868c45964cdaf8bc901c0e779bd308e612a232a6b41af4c6c6", func := "pub-stadtholder/laws.FnWalk", spec := "fnWalk", unfollowed := true, recurses := true, plainKeys := false, apart := false, narrowed := true }
def FnWalkUptoSaid : Prop := fnWalkUptoRow.holds Try.pinned (OpenSpec.upto fnWalkSpec)

end Rows
end Go.Proofs.Ytpjnmdeeoafclaa
