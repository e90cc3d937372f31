/-
  NARROWER THAN 'FOR EVERY INPUT', by the rows' own cells (each row's printed sentence says how): FnCheckOne: loops · FnOverlaps: loops.
  DERIVED. THE GIVEN ROWS OF THIS SEAT. 3 by the template 'for every input the law returns true; each argument reads behind the call as it read before'; 0 by the template 'total and deterministic' (their statements: YtcejmnfjkdjobaaTotals.lean).
  GIVEN WITH THE SEED: the statements are not yours to turn. If you find one false, say at which input.
  Laid BY PROGRAM, IN A SANDBOX (cutbox-rows.mjs): the forced cells as the released guide's own fill.sh prints them over the translation c59f2e96d3749519… (all of the seat's roots in one cut). By AI agents, Wed Nov 11 2026. No macro, syntax, notation, axiom, sorry.
-/
import Derived.Test.YtcejmnfjkdjobaaChecked
import GoSem.Claim
import GoSem.ClaimJoined
import GoSem.ClaimMapViews
import Derived.JoinedTies
import Derived.KernelRfl
namespace Go.Proofs.Ytcejmnfjkdjobaa
/- THE CELL 'sum', in the pinned program and in every row, IS THE sha256 OF THE DUMP (.gsa) THAT YtcejmnfjkdjobaaProg.lean LOADS. Nothing in Lean hashes anything: it is a label: what it is worth is what the hold of that sum in a sandbox is worth. -/
noncomputable def Try.pinned : Pinned := { name := "ytcejmnfjkdjobaa", sum := "c59f2e96d37495197f375ba52571a4338313db2dde73bb9c8a3150648f8f73ea", checked := Try.checked }
namespace Rows
def none {H : Type} : Left H := { results := [], args := [] }

/-- 'laws.FnTxnSorted': WHATEVER THE INPUT: true; the input reads as it did. -/
def fnTxnSortedSpec : ChangeSpec := { name := "fnTxnSorted", fn := fun _ => fun
  | [d1, d2, d3] => { results := [.lit (.bool true)], args := [d1, d2, d3] }
  | _ => none }
def fnTxnSortedRow : OpenClaim := { program := "ytcejmnfjkdjobaa", sum := "c59f2e96d37495197f375ba52571a4338313db2dde73bb9c8a3150648f8f73ea", func := "pub-stadtholder/laws.FnTxnSorted", spec := "fnTxnSorted", unfollowed := true, recurses := true, apart := false }
def FnTxnSortedSaid : Prop := fnTxnSortedRow.holds Try.pinned (OpenSpec.ofChange fnTxnSortedSpec)

/-- ITS FALSE NEIGHBOUR: 'it returns false'. Refute it at one input. -/
def fnTxnSortedWrong : ChangeSpec := { name := "fnTxnSorted", fn := fun _ => fun
  | [d1, d2, d3] => { results := [.lit (.bool false)], args := [d1, d2, d3] }
  | _ => none }
def FnTxnSortedWrongFalsely : Prop := fnTxnSortedRow.holds Try.pinned (OpenSpec.ofChange fnTxnSortedWrong)

/-- 'laws.FnCheckOne': WHATEVER THE INPUT: true; the input reads as it did. -/
def fnCheckOneSpec : ChangeSpec := { name := "fnCheckOne", fn := fun _ => fun
  | [d1, d2] => { results := [.lit (.bool true)], args := [d1, d2] }
  | _ => none }
def fnCheckOneRow : OpenClaim := { program := "ytcejmnfjkdjobaa", sum := "c59f2e96d37495197f375ba52571a4338313db2dde73bb9c8a3150648f8f73ea", func := "pub-stadtholder/laws.FnCheckOne", spec := "fnCheckOne", unfollowed := true, recurses := true, loops := true, apart := false }
def FnCheckOneSaid : Prop := fnCheckOneRow.holds Try.pinned (OpenSpec.ofChange fnCheckOneSpec)

/-- ITS FALSE NEIGHBOUR: 'it returns false'. Refute it at one input. -/
def fnCheckOneWrong : ChangeSpec := { name := "fnCheckOne", fn := fun _ => fun
  | [d1, d2] => { results := [.lit (.bool false)], args := [d1, d2] }
  | _ => none }
def FnCheckOneWrongFalsely : Prop := fnCheckOneRow.holds Try.pinned (OpenSpec.ofChange fnCheckOneWrong)

/-- 'laws.FnOverlaps': WHATEVER THE INPUT: true; the input reads as it did. -/
def fnOverlapsSpec : ChangeSpec := { name := "fnOverlaps", fn := fun _ => fun
  | [d] => { results := [.lit (.bool true)], args := [d] }
  | _ => none }
def fnOverlapsRow : OpenClaim := { program := "ytcejmnfjkdjobaa", sum := "c59f2e96d37495197f375ba52571a4338313db2dde73bb9c8a3150648f8f73ea", func := "pub-stadtholder/laws.FnOverlaps", spec := "fnOverlaps", unfollowed := true, recurses := true, loops := true, apart := false }
def FnOverlapsSaid : Prop := fnOverlapsRow.holds Try.pinned (OpenSpec.ofChange fnOverlapsSpec)

/-- ITS FALSE NEIGHBOUR: 'it returns false'. Refute it at one input. -/
def fnOverlapsWrong : ChangeSpec := { name := "fnOverlaps", fn := fun _ => fun
  | [d] => { results := [.lit (.bool false)], args := [d] }
  | _ => none }
def FnOverlapsWrongFalsely : Prop := fnOverlapsRow.holds Try.pinned (OpenSpec.ofChange fnOverlapsWrong)

/- THE SECOND FORM. 'bulk': how many values and letters a reading holds, each counted each time it is reached (what is shared counts as often as it is met; a slice's spare places count too). A statement '..UptoSaid' is the law's where the arguments, and the package variables that the reading takes, are together of bulk at most 1048576: NARROWER than '..Said'. Prove '..Said' where nothing that the law and all that it calls make is longer than what came in: it says more and counts as full. Else prove '..UptoSaid'. A law counts once. -/
mutual
def uptoBulk {H : Type} : DataW H → Nat
  | .lit (.string bytes) => bytes.length + 1
  | .lit _ => 1
  | .nil => 1
  | .ptr d => uptoBulk d + 1
  | .slice elems spare => uptoBulkAll elems + uptoBulkAll spare + 1
  | .agg parts => uptoBulkAll parts + 1
  | .iface _ d => uptoBulk d + 1
  | .map entries => uptoBulkEntries entries + 1
  | .held _ => 1
def uptoBulkAll {H : Type} : List (DataW H) → Nat
  | [] => 0
  | d :: r => uptoBulk d + uptoBulkAll r
def uptoBulkEntries {H : Type} : List (Lit × DataW H) → Nat
  | [] => 0
  | x :: r => uptoBulkEntry x + uptoBulkEntries r
def uptoBulkEntry {H : Type} : Lit × DataW H → Nat
  | (.string bytes, d) => bytes.length + uptoBulk d + 1
  | (_, d) => uptoBulk d + 1
 end
def uptoSmall : (H : Type) → List (DataW H) → Bool := fun _ ds => decide (uptoBulkAll ds ≤ 1048576)
def OpenSpec.upto (s : _root_.Go.ChangeSpec) : _root_.Go.OpenSpec := { _root_.Go.OpenSpec.ofChange s with cond := some uptoSmall }

/-- 'laws.FnTxnSorted', WHERE WHAT IT READS IS OF BULK AT MOST 1048576: true; the input reads as it did. -/
def fnTxnSortedUptoRow : OpenClaim := { program := "ytcejmnfjkdjobaa", sum := "c59f2e96d37495197f375ba52571a4338313db2dde73bb9c8a3150648f8f73ea", func := "pub-stadtholder/laws.FnTxnSorted", spec := "fnTxnSorted", unfollowed := true, recurses := true, apart := false, narrowed := true }
def FnTxnSortedUptoSaid : Prop := fnTxnSortedUptoRow.holds Try.pinned (OpenSpec.upto fnTxnSortedSpec)

/-- 'laws.FnCheckOne', WHERE WHAT IT READS IS OF BULK AT MOST 1048576: true; the input reads as it did. -/
def fnCheckOneUptoRow : OpenClaim := { program := "ytcejmnfjkdjobaa", sum := "c59f2e96d37495197f375ba52571a4338313db2dde73bb9c8a3150648f8f73ea", func := "pub-stadtholder/laws.FnCheckOne", spec := "fnCheckOne", unfollowed := true, recurses := true, loops := true, apart := false, narrowed := true }
def FnCheckOneUptoSaid : Prop := fnCheckOneUptoRow.holds Try.pinned (OpenSpec.upto fnCheckOneSpec)

/-- 'laws.FnOverlaps', WHERE WHAT IT READS IS OF BULK AT MOST 1048576: true; the input reads as it did. -/
def fnOverlapsUptoRow : OpenClaim := { program := "ytcejmnfjkdjobaa", sum := "c59f2e96d37495197f375ba52571a4338313db2dde73bb9c8a3150648f8f73ea", func := "pub-stadtholder/laws.FnOverlaps", spec := "fnOverlaps", unfollowed := true, recurses := true, loops := true, apart := false, narrowed := true }
def FnOverlapsUptoSaid : Prop := fnOverlapsUptoRow.holds Try.pinned (OpenSpec.upto fnOverlapsSpec)

end Rows
end Go.Proofs.Ytcejmnfjkdjobaa
