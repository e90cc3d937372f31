/-
  No cell of these rows narrows 'for every input' (looked for: loops, veiled, ifaces, maps, wideKeys, modest, calm, conditions, laid).
  DERIVED. THE GIVEN ROWS OF THIS SEAT. 3 by the template 'for every input the law returns true; each argument reads behind the call as it read before'; 0 by the template 'total and deterministic' (their statements: YtdgcdjlomindhaaTotals.lean).
  GIVEN WITH THE SEED: the statements are not yours to turn. If you find one false, say at which input.
  Laid BY PROGRAM, IN A SANDBOX (cutbox-rows.mjs): the forced cells as the released guide's own fill.sh prints them over the translation 39bf5f8bc3d7ead3… (all of the seat's roots in one cut). By AI agents, Wed Nov 11 2026. No macro, syntax, notation, axiom, sorry.
-/
import Derived.Test.YtdgcdjlomindhaaChecked
import GoSem.Claim
import GoSem.ClaimJoined
import GoSem.ClaimMapViews
import Derived.JoinedTies
import Derived.KernelRfl
namespace Go.Proofs.Ytdgcdjlomindhaa
/- THE CELL 'sum', in the pinned program and in every row, IS THE sha256 OF THE DUMP (.gsa) THAT YtdgcdjlomindhaaProg.lean LOADS. Nothing in Lean hashes anything: it is a label: what it is worth is what the hold of that sum in a sandbox is worth. -/
noncomputable def Try.pinned : Pinned := { name := "ytdgcdjlomindhaa", sum := "39bf5f8bc3d7ead39ba1fd9791582d7e0e4ef4feb8429edd624fc30571dd45f3", checked := Try.checked }
namespace Rows
def none {H : Type} : Left H := { results := [], args := [] }

/-- 'laws.FnBTreeDeletes': WHATEVER THE INPUT: true; the input reads as it did. -/
def fnBTreeDeletesSpec : ChangeSpec := { name := "fnBTreeDeletes", fn := fun _ => fun
  | [d1, d2, d3] => { results := [.lit (.bool true)], args := [d1, d2, d3] }
  | _ => none }
def fnBTreeDeletesRow : OpenClaim := { program := "ytdgcdjlomindhaa", sum := "39bf5f8bc3d7ead39ba1fd9791582d7e0e4ef4feb8429edd624fc30571dd45f3", func := "pub-stadtholder/laws.FnBTreeDeletes", spec := "fnBTreeDeletes", unfollowed := true, recurses := true, apart := false }
def FnBTreeDeletesSaid : Prop := fnBTreeDeletesRow.holds Try.pinned (OpenSpec.ofChange fnBTreeDeletesSpec)

/-- ITS FALSE NEIGHBOUR: 'it returns false'. Refute it at one input. -/
def fnBTreeDeletesWrong : ChangeSpec := { name := "fnBTreeDeletes", fn := fun _ => fun
  | [d1, d2, d3] => { results := [.lit (.bool false)], args := [d1, d2, d3] }
  | _ => none }
def FnBTreeDeletesWrongFalsely : Prop := fnBTreeDeletesRow.holds Try.pinned (OpenSpec.ofChange fnBTreeDeletesWrong)

/-- 'laws.FnBTreeAnswers': WHATEVER THE INPUT: true; the input reads as it did. -/
def fnBTreeAnswersSpec : ChangeSpec := { name := "fnBTreeAnswers", fn := fun _ => fun
  | [d1, d2] => { results := [.lit (.bool true)], args := [d1, d2] }
  | _ => none }
def fnBTreeAnswersRow : OpenClaim := { program := "ytdgcdjlomindhaa", sum := "39bf5f8bc3d7ead39ba1fd9791582d7e0e4ef4feb8429edd624fc30571dd45f3", func := "pub-stadtholder/laws.FnBTreeAnswers", spec := "fnBTreeAnswers", unfollowed := true, recurses := true, apart := false }
def FnBTreeAnswersSaid : Prop := fnBTreeAnswersRow.holds Try.pinned (OpenSpec.ofChange fnBTreeAnswersSpec)

/-- ITS FALSE NEIGHBOUR: 'it returns false'. Refute it at one input. -/
def fnBTreeAnswersWrong : ChangeSpec := { name := "fnBTreeAnswers", fn := fun _ => fun
  | [d1, d2] => { results := [.lit (.bool false)], args := [d1, d2] }
  | _ => none }
def FnBTreeAnswersWrongFalsely : Prop := fnBTreeAnswersRow.holds Try.pinned (OpenSpec.ofChange fnBTreeAnswersWrong)

/-- 'laws.FnBTreeOrder': WHATEVER THE INPUT: true; the input reads as it did. -/
def fnBTreeOrderSpec : ChangeSpec := { name := "fnBTreeOrder", fn := fun _ => fun
  | [d1, d2, d3] => { results := [.lit (.bool true)], args := [d1, d2, d3] }
  | _ => none }
def fnBTreeOrderRow : OpenClaim := { program := "ytdgcdjlomindhaa", sum := "39bf5f8bc3d7ead39ba1fd9791582d7e0e4ef4feb8429edd624fc30571dd45f3", func := "pub-stadtholder/laws.FnBTreeOrder", spec := "fnBTreeOrder", unfollowed := true, recurses := true, apart := false }
def FnBTreeOrderSaid : Prop := fnBTreeOrderRow.holds Try.pinned (OpenSpec.ofChange fnBTreeOrderSpec)

/-- ITS FALSE NEIGHBOUR: 'it returns false'. Refute it at one input. -/
def fnBTreeOrderWrong : ChangeSpec := { name := "fnBTreeOrder", fn := fun _ => fun
  | [d1, d2, d3] => { results := [.lit (.bool false)], args := [d1, d2, d3] }
  | _ => none }
def FnBTreeOrderWrongFalsely : Prop := fnBTreeOrderRow.holds Try.pinned (OpenSpec.ofChange fnBTreeOrderWrong)

/- THE SECOND FORM. 'bulk': how many values and letters a reading holds, each counted each time it is reached (what is shared counts as often as it is met; a slice's spare places count too). A statement '..UptoSaid' is the law's where the arguments, and the package variables that the reading takes, are together of bulk at most 1048576: NARROWER than '..Said'. Prove '..Said' where nothing that the law and all that it calls make is longer than what came in: it says more and counts as full. Else prove '..UptoSaid'. A law counts once. -/
mutual
def uptoBulk {H : Type} : DataW H → Nat
  | .lit (.string bytes) => bytes.length + 1
  | .lit _ => 1
  | .nil => 1
  | .ptr d => uptoBulk d + 1
  | .slice elems spare => uptoBulkAll elems + uptoBulkAll spare + 1
  | .agg parts => uptoBulkAll parts + 1
  | .iface _ d => uptoBulk d + 1
  | .map entries => uptoBulkEntries entries + 1
  | .held _ => 1
def uptoBulkAll {H : Type} : List (DataW H) → Nat
  | [] => 0
  | d :: r => uptoBulk d + uptoBulkAll r
def uptoBulkEntries {H : Type} : List (Lit × DataW H) → Nat
  | [] => 0
  | x :: r => uptoBulkEntry x + uptoBulkEntries r
def uptoBulkEntry {H : Type} : Lit × DataW H → Nat
  | (.string bytes, d) => bytes.length + uptoBulk d + 1
  | (_, d) => uptoBulk d + 1
 end
def uptoSmall : (H : Type) → List (DataW H) → Bool := fun _ ds => decide (uptoBulkAll ds ≤ 1048576)
def OpenSpec.upto (s : _root_.Go.ChangeSpec) : _root_.Go.OpenSpec := { _root_.Go.OpenSpec.ofChange s with cond := some uptoSmall }

/-- 'laws.FnBTreeDeletes', WHERE WHAT IT READS IS OF BULK AT MOST 1048576: true; the input reads as it did. -/
def fnBTreeDeletesUptoRow : OpenClaim := { program := "ytdgcdjlomindhaa", sum := "39bf5f8bc3d7ead39ba1fd9791582d7e0e4ef4feb8429edd624fc30571dd45f3", func := "pub-stadtholder/laws.FnBTreeDeletes", spec := "fnBTreeDeletes", unfollowed := true, recurses := true, apart := false, narrowed := true }
def FnBTreeDeletesUptoSaid : Prop := fnBTreeDeletesUptoRow.holds Try.pinned (OpenSpec.upto fnBTreeDeletesSpec)

/-- 'laws.FnBTreeAnswers', WHERE WHAT IT READS IS OF BULK AT MOST 1048576: true; the input reads as it did. -/
def fnBTreeAnswersUptoRow : OpenClaim := { program := "ytdgcdjlomindhaa", sum := "39bf5f8bc3d7ead39ba1fd9791582d7e0e4ef4feb8429edd624fc30571dd45f3", func := "pub-stadtholder/laws.FnBTreeAnswers", spec := "fnBTreeAnswers", unfollowed := true, recurses := true, apart := false, narrowed := true }
def FnBTreeAnswersUptoSaid : Prop := fnBTreeAnswersUptoRow.holds Try.pinned (OpenSpec.upto fnBTreeAnswersSpec)

/-- 'laws.FnBTreeOrder', WHERE WHAT IT READS IS OF BULK AT MOST 1048576: true; the input reads as it did. -/
def fnBTreeOrderUptoRow : OpenClaim := { program := "ytdgcdjlomindhaa", sum := "39bf5f8bc3d7ead39ba1fd9791582d7e0e4ef4feb8429edd624fc30571dd45f3", func := "pub-stadtholder/laws.FnBTreeOrder", spec := "fnBTreeOrder", unfollowed := true, recurses := true, apart := false, narrowed := true }
def FnBTreeOrderUptoSaid : Prop := fnBTreeOrderUptoRow.holds Try.pinned (OpenSpec.upto fnBTreeOrderSpec)

end Rows
end Go.Proofs.Ytdgcdjlomindhaa
