/-
  NARROWER THAN 'FOR EVERY INPUT', by the rows' own cells (each row's printed sentence says how): FnOverlaps: loops.
  DERIVED. THE GIVEN ROWS OF THIS SEAT. 6 by the template 'for every input the law returns true; each argument reads behind the call as it read before'; 0 by the template 'total and deterministic' (their statements: YtobolifgehagfaaTotals.lean).
  GIVEN WITH THE SEED: the statements are not yours to turn. If you find one false, say at which input.
  Laid BY PROGRAM, IN A SANDBOX (cutbox-rows.mjs): the forced cells as the released guide's own fill.sh prints them over the translation 310aa6e6835dd109… (all of the seat's roots in one cut). By AI agents, Wed Nov 11 2026. No macro, syntax, notation, axiom, sorry.
-/
import Derived.Test.YtobolifgehagfaaChecked
import GoSem.Claim
import GoSem.ClaimJoined
import GoSem.ClaimMapViews
import Derived.JoinedTies
import Derived.KernelRfl
namespace Go.Proofs.Ytobolifgehagfaa
/- THE CELL 'sum', in the pinned program and in every row, IS THE sha256 OF THE DUMP (.gsa) THAT YtobolifgehagfaaProg.lean LOADS. Nothing in Lean hashes anything: it is a label: what it is worth is what the hold of that sum in a sandbox is worth. -/
noncomputable def Try.pinned : Pinned := { name := "ytobolifgehagfaa", sum := "310aa6e6835dd10983195eb82757907e01adcd3507c0bee47567acf0d4d546be", checked := Try.checked }
namespace Rows
def none {H : Type} : Left H := { results := [], args := [] }

/-- 'laws.FnAuthParts': WHATEVER THE INPUT: true; the input reads as it did. -/
def fnAuthPartsSpec : ChangeSpec := { name := "fnAuthParts", fn := fun _ => fun
  | [d1, d2, d3, d4, d5] => { results := [.lit (.bool true)], args := [d1, d2, d3, d4, d5] }
  | _ => none }
def fnAuthPartsRow : OpenClaim := { program := "ytobolifgehagfaa", sum := "310aa6e6835dd10983195eb82757907e01adcd3507c0bee47567acf0d4d546be", func := "pub-stadtholder/laws.FnAuthParts", spec := "fnAuthParts", unfollowed := true, recurses := true, apart := false }
def FnAuthPartsSaid : Prop := fnAuthPartsRow.holds Try.pinned (OpenSpec.ofChange fnAuthPartsSpec)

/-- ITS FALSE NEIGHBOUR: 'it returns false'. Refute it at one input. -/
def fnAuthPartsWrong : ChangeSpec := { name := "fnAuthParts", fn := fun _ => fun
  | [d1, d2, d3, d4, d5] => { results := [.lit (.bool false)], args := [d1, d2, d3, d4, d5] }
  | _ => none }
def FnAuthPartsWrongFalsely : Prop := fnAuthPartsRow.holds Try.pinned (OpenSpec.ofChange fnAuthPartsWrong)

/-- 'laws.FnAuthPoint': WHATEVER THE INPUT: true; the input reads as it did. -/
def fnAuthPointSpec : ChangeSpec := { name := "fnAuthPoint", fn := fun _ => fun
  | [d1, d2, d3] => { results := [.lit (.bool true)], args := [d1, d2, d3] }
  | _ => none }
def fnAuthPointRow : OpenClaim := { program := "ytobolifgehagfaa", sum := "310aa6e6835dd10983195eb82757907e01adcd3507c0bee47567acf0d4d546be", func := "pub-stadtholder/laws.FnAuthPoint", spec := "fnAuthPoint", unfollowed := true, recurses := true, apart := false }
def FnAuthPointSaid : Prop := fnAuthPointRow.holds Try.pinned (OpenSpec.ofChange fnAuthPointSpec)

/-- ITS FALSE NEIGHBOUR: 'it returns false'. Refute it at one input. -/
def fnAuthPointWrong : ChangeSpec := { name := "fnAuthPoint", fn := fun _ => fun
  | [d1, d2, d3] => { results := [.lit (.bool false)], args := [d1, d2, d3] }
  | _ => none }
def FnAuthPointWrongFalsely : Prop := fnAuthPointRow.holds Try.pinned (OpenSpec.ofChange fnAuthPointWrong)

/-- 'laws.FnTreeContains': WHATEVER THE INPUT: true; the input reads as it did. -/
def fnTreeContainsSpec : ChangeSpec := { name := "fnTreeContains", fn := fun _ => fun
  | [d1, d2, d3] => { results := [.lit (.bool true)], args := [d1, d2, d3] }
  | _ => none }
def fnTreeContainsRow : OpenClaim := { program := "ytobolifgehagfaa", sum := "310aa6e6835dd10983195eb82757907e01adcd3507c0bee47567acf0d4d546be", func := "pub-stadtholder/laws.FnTreeContains", spec := "fnTreeContains", unfollowed := true, recurses := true, apart := false }
def FnTreeContainsSaid : Prop := fnTreeContainsRow.holds Try.pinned (OpenSpec.ofChange fnTreeContainsSpec)

/-- ITS FALSE NEIGHBOUR: 'it returns false'. Refute it at one input. -/
def fnTreeContainsWrong : ChangeSpec := { name := "fnTreeContains", fn := fun _ => fun
  | [d1, d2, d3] => { results := [.lit (.bool false)], args := [d1, d2, d3] }
  | _ => none }
def FnTreeContainsWrongFalsely : Prop := fnTreeContainsRow.holds Try.pinned (OpenSpec.ofChange fnTreeContainsWrong)

/-- 'laws.FnTreeHeight': WHATEVER THE INPUT: true; the input reads as it did. -/
def fnTreeHeightSpec : ChangeSpec := { name := "fnTreeHeight", fn := fun _ => fun
  | [d1, d2] => { results := [.lit (.bool true)], args := [d1, d2] }
  | _ => none }
def fnTreeHeightRow : OpenClaim := { program := "ytobolifgehagfaa", sum := "310aa6e6835dd10983195eb82757907e01adcd3507c0bee47567acf0d4d546be", func := "pub-stadtholder/laws.FnTreeHeight", spec := "fnTreeHeight", unfollowed := true, recurses := true, apart := false }
def FnTreeHeightSaid : Prop := fnTreeHeightRow.holds Try.pinned (OpenSpec.ofChange fnTreeHeightSpec)

/-- ITS FALSE NEIGHBOUR: 'it returns false'. Refute it at one input. -/
def fnTreeHeightWrong : ChangeSpec := { name := "fnTreeHeight", fn := fun _ => fun
  | [d1, d2] => { results := [.lit (.bool false)], args := [d1, d2] }
  | _ => none }
def FnTreeHeightWrongFalsely : Prop := fnTreeHeightRow.holds Try.pinned (OpenSpec.ofChange fnTreeHeightWrong)

/-- 'laws.FnTreeStab': WHATEVER THE INPUT: true; the input reads as it did. -/
def fnTreeStabSpec : ChangeSpec := { name := "fnTreeStab", fn := fun _ => fun
  | [d1, d2, d3] => { results := [.lit (.bool true)], args := [d1, d2, d3] }
  | _ => none }
def fnTreeStabRow : OpenClaim := { program := "ytobolifgehagfaa", sum := "310aa6e6835dd10983195eb82757907e01adcd3507c0bee47567acf0d4d546be", func := "pub-stadtholder/laws.FnTreeStab", spec := "fnTreeStab", unfollowed := true, recurses := true, apart := false }
def FnTreeStabSaid : Prop := fnTreeStabRow.holds Try.pinned (OpenSpec.ofChange fnTreeStabSpec)

/-- ITS FALSE NEIGHBOUR: 'it returns false'. Refute it at one input. -/
def fnTreeStabWrong : ChangeSpec := { name := "fnTreeStab", fn := fun _ => fun
  | [d1, d2, d3] => { results := [.lit (.bool false)], args := [d1, d2, d3] }
  | _ => none }
def FnTreeStabWrongFalsely : Prop := fnTreeStabRow.holds Try.pinned (OpenSpec.ofChange fnTreeStabWrong)

/-- 'laws.FnOverlaps': WHATEVER THE INPUT: true; the input reads as it did. -/
def fnOverlapsSpec : ChangeSpec := { name := "fnOverlaps", fn := fun _ => fun
  | [d] => { results := [.lit (.bool true)], args := [d] }
  | _ => none }
def fnOverlapsRow : OpenClaim := { program := "ytobolifgehagfaa", sum := "310aa6e6835dd10983195eb82757907e01adcd3507c0bee47567acf0d4d546be", func := "pub-stadtholder/laws.FnOverlaps", spec := "fnOverlaps", unfollowed := true, recurses := true, loops := true, apart := false }
def FnOverlapsSaid : Prop := fnOverlapsRow.holds Try.pinned (OpenSpec.ofChange fnOverlapsSpec)

/-- ITS FALSE NEIGHBOUR: 'it returns false'. Refute it at one input. -/
def fnOverlapsWrong : ChangeSpec := { name := "fnOverlaps", fn := fun _ => fun
  | [d] => { results := [.lit (.bool false)], args := [d] }
  | _ => none }
def FnOverlapsWrongFalsely : Prop := fnOverlapsRow.holds Try.pinned (OpenSpec.ofChange fnOverlapsWrong)

/- THE SECOND FORM. 'bulk': how many values and letters a reading holds, each counted each time it is reached (what is shared counts as often as it is met; a slice's spare places count too). A statement '..UptoSaid' is the law's where the arguments, and the package variables that the reading takes, are together of bulk at most 1048576: NARROWER than '..Said'. Prove '..Said' where nothing that the law and all that it calls make is longer than what came in: it says more and counts as full. Else prove '..UptoSaid'. A law counts once. -/
mutual
def uptoBulk {H : Type} : DataW H → Nat
  | .lit (.string bytes) => bytes.length + 1
  | .lit _ => 1
  | .nil => 1
  | .ptr d => uptoBulk d + 1
  | .slice elems spare => uptoBulkAll elems + uptoBulkAll spare + 1
  | .agg parts => uptoBulkAll parts + 1
  | .iface _ d => uptoBulk d + 1
  | .map entries => uptoBulkEntries entries + 1
  | .held _ => 1
def uptoBulkAll {H : Type} : List (DataW H) → Nat
  | [] => 0
  | d :: r => uptoBulk d + uptoBulkAll r
def uptoBulkEntries {H : Type} : List (Lit × DataW H) → Nat
  | [] => 0
  | x :: r => uptoBulkEntry x + uptoBulkEntries r
def uptoBulkEntry {H : Type} : Lit × DataW H → Nat
  | (.string bytes, d) => bytes.length + uptoBulk d + 1
  | (_, d) => uptoBulk d + 1
 end
def uptoSmall : (H : Type) → List (DataW H) → Bool := fun _ ds => decide (uptoBulkAll ds ≤ 1048576)
def OpenSpec.upto (s : _root_.Go.ChangeSpec) : _root_.Go.OpenSpec := { _root_.Go.OpenSpec.ofChange s with cond := some uptoSmall }

/-- 'laws.FnAuthParts', WHERE WHAT IT READS IS OF BULK AT MOST 1048576: true; the input reads as it did. -/
def fnAuthPartsUptoRow : OpenClaim := { program := "ytobolifgehagfaa", sum := "310aa6e6835dd10983195eb82757907e01adcd3507c0bee47567acf0d4d546be", func := "pub-stadtholder/laws.FnAuthParts", spec := "fnAuthParts", unfollowed := true, recurses := true, apart := false, narrowed := true }
def FnAuthPartsUptoSaid : Prop := fnAuthPartsUptoRow.holds Try.pinned (OpenSpec.upto fnAuthPartsSpec)

/-- 'laws.FnAuthPoint', WHERE WHAT IT READS IS OF BULK AT MOST 1048576: true; the input reads as it did. -/
def fnAuthPointUptoRow : OpenClaim := { program := "ytobolifgehagfaa", sum := "310aa6e6835dd10983195eb82757907e01adcd3507c0bee47567acf0d4d546be", func := "pub-stadtholder/laws.FnAuthPoint", spec := "fnAuthPoint", unfollowed := true, recurses := true, apart := false, narrowed := true }
def FnAuthPointUptoSaid : Prop := fnAuthPointUptoRow.holds Try.pinned (OpenSpec.upto fnAuthPointSpec)

/-- 'laws.FnTreeContains', WHERE WHAT IT READS IS OF BULK AT MOST 1048576: true; the input reads as it did. -/
def fnTreeContainsUptoRow : OpenClaim := { program := "ytobolifgehagfaa", sum := "310aa6e6835dd10983195eb82757907e01adcd3507c0bee47567acf0d4d546be", func := "pub-stadtholder/laws.FnTreeContains", spec := "fnTreeContains", unfollowed := true, recurses := true, apart := false, narrowed := true }
def FnTreeContainsUptoSaid : Prop := fnTreeContainsUptoRow.holds Try.pinned (OpenSpec.upto fnTreeContainsSpec)

/-- 'laws.FnTreeHeight', WHERE WHAT IT READS IS OF BULK AT MOST 1048576: true; the input reads as it did. -/
def fnTreeHeightUptoRow : OpenClaim := { program := "ytobolifgehagfaa", sum := "310aa6e6835dd10983195eb82757907e01adcd3507c0bee47567acf0d4d546be", func := "pub-stadtholder/laws.FnTreeHeight", spec := "fnTreeHeight", unfollowed := true, recurses := true, apart := false, narrowed := true }
def FnTreeHeightUptoSaid : Prop := fnTreeHeightUptoRow.holds Try.pinned (OpenSpec.upto fnTreeHeightSpec)

/-- 'laws.FnTreeStab', WHERE WHAT IT READS IS OF BULK AT MOST 1048576: true; the input reads as it did. -/
def fnTreeStabUptoRow : OpenClaim := { program := "ytobolifgehagfaa", sum := "310aa6e6835dd10983195eb82757907e01adcd3507c0bee47567acf0d4d546be", func := "pub-stadtholder/laws.FnTreeStab", spec := "fnTreeStab", unfollowed := true, recurses := true, apart := false, narrowed := true }
def FnTreeStabUptoSaid : Prop := fnTreeStabUptoRow.holds Try.pinned (OpenSpec.upto fnTreeStabSpec)

/-- 'laws.FnOverlaps', WHERE WHAT IT READS IS OF BULK AT MOST 1048576: true; the input reads as it did. -/
def fnOverlapsUptoRow : OpenClaim := { program := "ytobolifgehagfaa", sum := "310aa6e6835dd10983195eb82757907e01adcd3507c0bee47567acf0d4d546be", func := "pub-stadtholder/laws.FnOverlaps", spec := "fnOverlaps", unfollowed := true, recurses := true, loops := true, apart := false, narrowed := true }
def FnOverlapsUptoSaid : Prop := fnOverlapsUptoRow.holds Try.pinned (OpenSpec.upto fnOverlapsSpec)

end Rows
end Go.Proofs.Ytobolifgehagfaa
