/-
  No cell of these rows narrows 'for every input' (looked for: loops, veiled, ifaces, maps, wideKeys, modest, calm, conditions, laid).
  DERIVED. THE GIVEN ROWS OF THIS SEAT. 3 by the template 'for every input the law returns true; each argument reads behind the call as it read before'; 0 by the template 'total and deterministic' (their statements: YtobolifgehagfaaGreatTotals.lean).
  GIVEN WITH THE SEED: the statements are not yours to turn. If you find one false, say at which input.
  Laid BY PROGRAM, IN A SANDBOX (cutbox-rows.mjs): the forced cells as the released guide's own fill.sh prints them over the translation df9a9614a3ad231f… (all of the seat's roots in one cut). By AI agents, Wed Nov 11 2026. No macro, syntax, notation, axiom, sorry.
-/
import Derived.Test.YtobolifgehagfaaGreatChecked
import GoSem.Claim
import GoSem.ClaimJoined
import GoSem.ClaimMapViews
import Derived.JoinedTies
import Derived.KernelRfl
namespace Go.Proofs.YtobolifgehagfaaGreat
/- THE CELL 'sum', in the pinned program and in every row, IS THE sha256 OF THE DUMP (.gsa) THAT YtobolifgehagfaaGreatProg.lean LOADS. Nothing in Lean hashes anything: it is a label: what it is worth is what the hold of that sum in a sandbox is worth. -/
noncomputable def Tryz.pinned : Pinned := { name := "ytobolifgehagfaagreat", sum := "df9a9614a3ad231f5d5a66ce9139457a2dee6acf384539d32156e9dc36dfd0d3", checked := Tryz.checked }
namespace Rows
def none {H : Type} : Left H := { results := [], args := [] }

/-- 'laws.FnGroupBatch': WHATEVER THE INPUT: true; the input reads as it did. -/
def fnGroupBatchSpec : ChangeSpec := { name := "fnGroupBatch", fn := fun _ => fun
  | [d1, d2] => { results := [.lit (.bool true)], args := [d1, d2] }
  | _ => none }
def fnGroupBatchRow : OpenClaim := { program := "ytobolifgehagfaagreat", sum := "df9a9614a3ad231f5d5a66ce9139457a2dee6acf384539d32156e9dc36dfd0d3", func := "pub-stadtholder/laws.FnGroupBatch", spec := "fnGroupBatch", unfollowed := true, recurses := true, apart := false }
def FnGroupBatchSaid : Prop := fnGroupBatchRow.holds Tryz.pinned (OpenSpec.ofChange fnGroupBatchSpec)

/-- ITS FALSE NEIGHBOUR: 'it returns false'. Refute it at one input. -/
def fnGroupBatchWrong : ChangeSpec := { name := "fnGroupBatch", fn := fun _ => fun
  | [d1, d2] => { results := [.lit (.bool false)], args := [d1, d2] }
  | _ => none }
def FnGroupBatchWrongFalsely : Prop := fnGroupBatchRow.holds Tryz.pinned (OpenSpec.ofChange fnGroupBatchWrong)

/-- 'laws.FnGroupByKey': WHATEVER THE INPUT: true; the input reads as it did. -/
def fnGroupByKeySpec : ChangeSpec := { name := "fnGroupByKey", fn := fun _ => fun
  | [d1, d2] => { results := [.lit (.bool true)], args := [d1, d2] }
  | _ => none }
def fnGroupByKeyRow : OpenClaim := { program := "ytobolifgehagfaagreat", sum := "df9a9614a3ad231f5d5a66ce9139457a2dee6acf384539d32156e9dc36dfd0d3", func := "pub-stadtholder/laws.FnGroupByKey", spec := "fnGroupByKey", unfollowed := true, recurses := true, apart := false }
def FnGroupByKeySaid : Prop := fnGroupByKeyRow.holds Tryz.pinned (OpenSpec.ofChange fnGroupByKeySpec)

/-- ITS FALSE NEIGHBOUR: 'it returns false'. Refute it at one input. -/
def fnGroupByKeyWrong : ChangeSpec := { name := "fnGroupByKey", fn := fun _ => fun
  | [d1, d2] => { results := [.lit (.bool false)], args := [d1, d2] }
  | _ => none }
def FnGroupByKeyWrongFalsely : Prop := fnGroupByKeyRow.holds Tryz.pinned (OpenSpec.ofChange fnGroupByKeyWrong)

/-- 'laws.FnBatchWhole': WHATEVER THE INPUT: true; the input reads as it did. -/
def fnBatchWholeSpec : ChangeSpec := { name := "fnBatchWhole", fn := fun _ => fun
  | [d] => { results := [.lit (.bool true)], args := [d] }
  | _ => none }
def fnBatchWholeRow : OpenClaim := { program := "ytobolifgehagfaagreat", sum := "df9a9614a3ad231f5d5a66ce9139457a2dee6acf384539d32156e9dc36dfd0d3", func := "pub-stadtholder/laws.FnBatchWhole", spec := "fnBatchWhole", unfollowed := true, recurses := true, apart := false }
def FnBatchWholeSaid : Prop := fnBatchWholeRow.holds Tryz.pinned (OpenSpec.ofChange fnBatchWholeSpec)

/-- ITS FALSE NEIGHBOUR: 'it returns false'. Refute it at one input. -/
def fnBatchWholeWrong : ChangeSpec := { name := "fnBatchWhole", fn := fun _ => fun
  | [d] => { results := [.lit (.bool false)], args := [d] }
  | _ => none }
def FnBatchWholeWrongFalsely : Prop := fnBatchWholeRow.holds Tryz.pinned (OpenSpec.ofChange fnBatchWholeWrong)

/- THE SECOND FORM. 'bulk': how many values and letters a reading holds, each counted each time it is reached (what is shared counts as often as it is met; a slice's spare places count too). A statement '..UptoSaid' is the law's where the arguments, and the package variables that the reading takes, are together of bulk at most 1048576: NARROWER than '..Said'. Prove '..Said' where nothing that the law and all that it calls make is longer than what came in: it says more and counts as full. Else prove '..UptoSaid'. A law counts once. -/
mutual
def uptoBulk {H : Type} : DataW H → Nat
  | .lit (.string bytes) => bytes.length + 1
  | .lit _ => 1
  | .nil => 1
  | .ptr d => uptoBulk d + 1
  | .slice elems spare => uptoBulkAll elems + uptoBulkAll spare + 1
  | .agg parts => uptoBulkAll parts + 1
  | .iface _ d => uptoBulk d + 1
  | .map entries => uptoBulkEntries entries + 1
  | .held _ => 1
def uptoBulkAll {H : Type} : List (DataW H) → Nat
  | [] => 0
  | d :: r => uptoBulk d + uptoBulkAll r
def uptoBulkEntries {H : Type} : List (Lit × DataW H) → Nat
  | [] => 0
  | x :: r => uptoBulkEntry x + uptoBulkEntries r
def uptoBulkEntry {H : Type} : Lit × DataW H → Nat
  | (.string bytes, d) => bytes.length + uptoBulk d + 1
  | (_, d) => uptoBulk d + 1
 end
def uptoSmall : (H : Type) → List (DataW H) → Bool := fun _ ds => decide (uptoBulkAll ds ≤ 1048576)
def OpenSpec.upto (s : _root_.Go.ChangeSpec) : _root_.Go.OpenSpec := { _root_.Go.OpenSpec.ofChange s with cond := some uptoSmall }

/-- 'laws.FnGroupBatch', WHERE WHAT IT READS IS OF BULK AT MOST 1048576: true; the input reads as it did. -/
def fnGroupBatchUptoRow : OpenClaim := { program := "ytobolifgehagfaagreat", sum := "df9a9614a3ad231f5d5a66ce9139457a2dee6acf384539d32156e9dc36dfd0d3", func := "pub-stadtholder/laws.FnGroupBatch", spec := "fnGroupBatch", unfollowed := true, recurses := true, apart := false, narrowed := true }
def FnGroupBatchUptoSaid : Prop := fnGroupBatchUptoRow.holds Tryz.pinned (OpenSpec.upto fnGroupBatchSpec)

/-- 'laws.FnGroupByKey', WHERE WHAT IT READS IS OF BULK AT MOST 1048576: true; the input reads as it did. -/
def fnGroupByKeyUptoRow : OpenClaim := { program := "ytobolifgehagfaagreat", sum := "df9a9614a3ad231f5d5a66ce9139457a2dee6acf384539d32156e9dc36dfd0d3", func := "pub-stadtholder/laws.FnGroupByKey", spec := "fnGroupByKey", unfollowed := true, recurses := true, apart := false, narrowed := true }
def FnGroupByKeyUptoSaid : Prop := fnGroupByKeyUptoRow.holds Tryz.pinned (OpenSpec.upto fnGroupByKeySpec)

/-- 'laws.FnBatchWhole', WHERE WHAT IT READS IS OF BULK AT MOST 1048576: true; the input reads as it did. -/
def fnBatchWholeUptoRow : OpenClaim := { program := "ytobolifgehagfaagreat", sum := "df9a9614a3ad231f5d5a66ce9139457a2dee6acf384539d32156e9dc36dfd0d3", func := "pub-stadtholder/laws.FnBatchWhole", spec := "fnBatchWhole", unfollowed := true, recurses := true, apart := false, narrowed := true }
def FnBatchWholeUptoSaid : Prop := fnBatchWholeUptoRow.holds Tryz.pinned (OpenSpec.upto fnBatchWholeSpec)

end Rows
end Go.Proofs.YtobolifgehagfaaGreat
