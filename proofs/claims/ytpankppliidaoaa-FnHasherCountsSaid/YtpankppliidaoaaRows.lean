/-
  NARROWER THAN 'FOR EVERY INPUT', by the rows' own cells (each row's printed sentence says how): FnTxnFilters: loops.
  DERIVED. THE GIVEN ROWS OF THIS SEAT. 6 by the template 'for every input the law returns true; each argument reads behind the call as it read before'; 0 by the template 'total and deterministic' (their statements: YtpankppliidaoaaTotals.lean).
  GIVEN WITH THE SEED: the statements are not yours to turn. If you find one false, say at which input.
  Laid BY PROGRAM, IN A SANDBOX (cutbox-rows.mjs): the forced cells as the released guide's own fill.sh prints them over the translation b2d128871341036d… (all of the seat's roots in one cut). By AI agents, Wed Nov 11 2026. No macro, syntax, notation, axiom, sorry.
-/
import Derived.Test.YtpankppliidaoaaChecked
import GoSem.Claim
import GoSem.ClaimJoined
import GoSem.ClaimMapViews
import Derived.JoinedTies
import Derived.KernelRfl
namespace Go.Proofs.Ytpankppliidaoaa
/- THE CELL 'sum', in the pinned program and in every row, IS THE sha256 OF THE DUMP (.gsa) THAT YtpankppliidaoaaProg.lean LOADS. Nothing in Lean hashes anything: it is a label: what it is worth is what the hold of that sum in a sandbox is worth. -/
noncomputable def Try.pinned : Pinned := { name := "ytpankppliidaoaa", sum := "b2d128871341036d699ab29e587d8d768af856afc49c76da68b1cc385fd07352", checked := Try.checked }
namespace Rows
def none {H : Type} : Left H := { results := [], args := [] }

/-- 'laws.FnTxnFilters': WHATEVER THE INPUT: true; the input reads as it did. -/
def fnTxnFiltersSpec : ChangeSpec := { name := "fnTxnFilters", fn := fun _ => fun
  | [d1, d2, d3] => { results := [.lit (.bool true)], args := [d1, d2, d3] }
  | _ => none }
def fnTxnFiltersRow : OpenClaim := { program := "ytpankppliidaoaa", sum := "b2d128871341036d699ab29e587d8d768af856afc49c76da68b1cc385fd07352", func := "pub-stadtholder/laws.FnTxnFilters", spec := "fnTxnFilters", unfollowed := true, recurses := true, loops := true, plainKeys := false, apart := false }
def FnTxnFiltersSaid : Prop := fnTxnFiltersRow.holds Try.pinned (OpenSpec.ofChange fnTxnFiltersSpec)

/-- ITS FALSE NEIGHBOUR: 'it returns false'. Refute it at one input. -/
def fnTxnFiltersWrong : ChangeSpec := { name := "fnTxnFilters", fn := fun _ => fun
  | [d1, d2, d3] => { results := [.lit (.bool false)], args := [d1, d2, d3] }
  | _ => none }
def FnTxnFiltersWrongFalsely : Prop := fnTxnFiltersRow.holds Try.pinned (OpenSpec.ofChange fnTxnFiltersWrong)

/-- 'laws.FnRevBack': WHATEVER THE INPUT: true; the input reads as it did. -/
def fnRevBackSpec : ChangeSpec := { name := "fnRevBack", fn := fun _ => fun
  | [d] => { results := [.lit (.bool true)], args := [d] }
  | _ => none }
def fnRevBackRow : OpenClaim := { program := "ytpankppliidaoaa", sum := "b2d128871341036d699ab29e587d8d768af856afc49c76da68b1cc385fd07352", func := "pub-stadtholder/laws.FnRevBack", spec := "fnRevBack", unfollowed := true, recurses := true, plainKeys := false, apart := false }
def FnRevBackSaid : Prop := fnRevBackRow.holds Try.pinned (OpenSpec.ofChange fnRevBackSpec)

/-- ITS FALSE NEIGHBOUR: 'it returns false'. Refute it at one input. -/
def fnRevBackWrong : ChangeSpec := { name := "fnRevBack", fn := fun _ => fun
  | [d] => { results := [.lit (.bool false)], args := [d] }
  | _ => none }
def FnRevBackWrongFalsely : Prop := fnRevBackRow.holds Try.pinned (OpenSpec.ofChange fnRevBackWrong)

/-- 'laws.FnRevGreater': WHATEVER THE INPUT: true; the input reads as it did. -/
def fnRevGreaterSpec : ChangeSpec := { name := "fnRevGreater", fn := fun _ => fun
  | [d1, d2, d3] => { results := [.lit (.bool true)], args := [d1, d2, d3] }
  | _ => none }
def fnRevGreaterRow : OpenClaim := { program := "ytpankppliidaoaa", sum := "b2d128871341036d699ab29e587d8d768af856afc49c76da68b1cc385fd07352", func := "pub-stadtholder/laws.FnRevGreater", spec := "fnRevGreater", unfollowed := true, recurses := true, plainKeys := false, apart := false }
def FnRevGreaterSaid : Prop := fnRevGreaterRow.holds Try.pinned (OpenSpec.ofChange fnRevGreaterSpec)

/-- ITS FALSE NEIGHBOUR: 'it returns false'. Refute it at one input. -/
def fnRevGreaterWrong : ChangeSpec := { name := "fnRevGreater", fn := fun _ => fun
  | [d1, d2, d3] => { results := [.lit (.bool false)], args := [d1, d2, d3] }
  | _ => none }
def FnRevGreaterWrongFalsely : Prop := fnRevGreaterRow.holds Try.pinned (OpenSpec.ofChange fnRevGreaterWrong)

/-- 'laws.FnTombstoneOne': WHATEVER THE INPUT: true; the input reads as it did. -/
def fnTombstoneOneSpec : ChangeSpec := { name := "fnTombstoneOne", fn := fun _ => fun
  | [d] => { results := [.lit (.bool true)], args := [d] }
  | _ => none }
def fnTombstoneOneRow : OpenClaim := { program := "ytpankppliidaoaa", sum := "b2d128871341036d699ab29e587d8d768af856afc49c76da68b1cc385fd07352", func := "pub-stadtholder/laws.FnTombstoneOne", spec := "fnTombstoneOne", unfollowed := true, recurses := true, plainKeys := false, apart := false }
def FnTombstoneOneSaid : Prop := fnTombstoneOneRow.holds Try.pinned (OpenSpec.ofChange fnTombstoneOneSpec)

/-- ITS FALSE NEIGHBOUR: 'it returns false'. Refute it at one input. -/
def fnTombstoneOneWrong : ChangeSpec := { name := "fnTombstoneOne", fn := fun _ => fun
  | [d] => { results := [.lit (.bool false)], args := [d] }
  | _ => none }
def FnTombstoneOneWrongFalsely : Prop := fnTombstoneOneRow.holds Try.pinned (OpenSpec.ofChange fnTombstoneOneWrong)

/-- 'laws.FnPagesAll': WHATEVER THE INPUT: true; the input reads as it did. -/
def fnPagesAllSpec : ChangeSpec := { name := "fnPagesAll", fn := fun _ => fun
  | [d1, d2, d3, d4] => { results := [.lit (.bool true)], args := [d1, d2, d3, d4] }
  | _ => none }
def fnPagesAllRow : OpenClaim := { program := "ytpankppliidaoaa", sum := "b2d128871341036d699ab29e587d8d768af856afc49c76da68b1cc385fd07352", func := "pub-stadtholder/laws.FnPagesAll", spec := "fnPagesAll", unfollowed := true, recurses := true, plainKeys := false, apart := false }
def FnPagesAllSaid : Prop := fnPagesAllRow.holds Try.pinned (OpenSpec.ofChange fnPagesAllSpec)

/-- ITS FALSE NEIGHBOUR: 'it returns false'. Refute it at one input. -/
def fnPagesAllWrong : ChangeSpec := { name := "fnPagesAll", fn := fun _ => fun
  | [d1, d2, d3, d4] => { results := [.lit (.bool false)], args := [d1, d2, d3, d4] }
  | _ => none }
def FnPagesAllWrongFalsely : Prop := fnPagesAllRow.holds Try.pinned (OpenSpec.ofChange fnPagesAllWrong)

/-- 'laws.FnHasherCounts': WHATEVER THE INPUT: true; the input reads as it did. -/
def fnHasherCountsSpec : ChangeSpec := { name := "fnHasherCounts", fn := fun _ => fun
  | [d1, d2, d3, d4] => { results := [.lit (.bool true)], args := [d1, d2, d3, d4] }
  | _ => none }
def fnHasherCountsRow : OpenClaim := { program := "ytpankppliidaoaa", sum := "b2d128871341036d699ab29e587d8d768af856afc49c76da68b1cc385fd07352", func := "pub-stadtholder/laws.FnHasherCounts", spec := "fnHasherCounts", unfollowed := true, recurses := true, plainKeys := false, apart := false }
def FnHasherCountsSaid : Prop := fnHasherCountsRow.holds Try.pinned (OpenSpec.ofChange fnHasherCountsSpec)

/-- ITS FALSE NEIGHBOUR: 'it returns false'. Refute it at one input. -/
def fnHasherCountsWrong : ChangeSpec := { name := "fnHasherCounts", fn := fun _ => fun
  | [d1, d2, d3, d4] => { results := [.lit (.bool false)], args := [d1, d2, d3, d4] }
  | _ => none }
def FnHasherCountsWrongFalsely : Prop := fnHasherCountsRow.holds Try.pinned (OpenSpec.ofChange fnHasherCountsWrong)

/- THE SECOND FORM. 'bulk': how many values and letters a reading holds, each counted each time it is reached (what is shared counts as often as it is met; a slice's spare places count too). A statement '..UptoSaid' is the law's where the arguments, and the package variables that the reading takes, are together of bulk at most 1048576: NARROWER than '..Said'. Prove '..Said' where nothing that the law and all that it calls make is longer than what came in: it says more and counts as full. Else prove '..UptoSaid'. A law counts once. -/
mutual
def uptoBulk {H : Type} : DataW H → Nat
  | .lit (.string bytes) => bytes.length + 1
  | .lit _ => 1
  | .nil => 1
  | .ptr d => uptoBulk d + 1
  | .slice elems spare => uptoBulkAll elems + uptoBulkAll spare + 1
  | .agg parts => uptoBulkAll parts + 1
  | .iface _ d => uptoBulk d + 1
  | .map entries => uptoBulkEntries entries + 1
  | .held _ => 1
def uptoBulkAll {H : Type} : List (DataW H) → Nat
  | [] => 0
  | d :: r => uptoBulk d + uptoBulkAll r
def uptoBulkEntries {H : Type} : List (Lit × DataW H) → Nat
  | [] => 0
  | x :: r => uptoBulkEntry x + uptoBulkEntries r
def uptoBulkEntry {H : Type} : Lit × DataW H → Nat
  | (.string bytes, d) => bytes.length + uptoBulk d + 1
  | (_, d) => uptoBulk d + 1
 end
def uptoSmall : (H : Type) → List (DataW H) → Bool := fun _ ds => decide (uptoBulkAll ds ≤ 1048576)
def OpenSpec.upto (s : _root_.Go.ChangeSpec) : _root_.Go.OpenSpec := { _root_.Go.OpenSpec.ofChange s with cond := some uptoSmall }

/-- 'laws.FnTxnFilters', WHERE WHAT IT READS IS OF BULK AT MOST 1048576: true; the input reads as it did. -/
def fnTxnFiltersUptoRow : OpenClaim := { program := "ytpankppliidaoaa", sum := "b2d128871341036d699ab29e587d8d768af856afc49c76da68b1cc385fd07352", func := "pub-stadtholder/laws.FnTxnFilters", spec := "fnTxnFilters", unfollowed := true, recurses := true, loops := true, plainKeys := false, apart := false, narrowed := true }
def FnTxnFiltersUptoSaid : Prop := fnTxnFiltersUptoRow.holds Try.pinned (OpenSpec.upto fnTxnFiltersSpec)

/-- 'laws.FnRevBack', WHERE WHAT IT READS IS OF BULK AT MOST 1048576: true; the input reads as it did. -/
def fnRevBackUptoRow : OpenClaim := { program := "ytpankppliidaoaa", sum := "b2d128871341036d699ab29e587d8d768af856afc49c76da68b1cc385fd07352", func := "pub-stadtholder/laws.FnRevBack", spec := "fnRevBack", unfollowed := true, recurses := true, plainKeys := false, apart := false, narrowed := true }
def FnRevBackUptoSaid : Prop := fnRevBackUptoRow.holds Try.pinned (OpenSpec.upto fnRevBackSpec)

/-- 'laws.FnRevGreater', WHERE WHAT IT READS IS OF BULK AT MOST 1048576: true; the input reads as it did. -/
def fnRevGreaterUptoRow : OpenClaim := { program := "ytpankppliidaoaa", sum := "b2d128871341036d699ab29e587d8d768af856afc49c76da68b1cc385fd07352", func := "pub-stadtholder/laws.FnRevGreater", spec := "fnRevGreater", unfollowed := true, recurses := true, plainKeys := false, apart := false, narrowed := true }
def FnRevGreaterUptoSaid : Prop := fnRevGreaterUptoRow.holds Try.pinned (OpenSpec.upto fnRevGreaterSpec)

/-- 'laws.FnTombstoneOne', WHERE WHAT IT READS IS OF BULK AT MOST 1048576: true; the input reads as it did. -/
def fnTombstoneOneUptoRow : OpenClaim := { program := "ytpankppliidaoaa", sum := "b2d128871341036d699ab29e587d8d768af856afc49c76da68b1cc385fd07352", func := "pub-stadtholder/laws.FnTombstoneOne", spec := "fnTombstoneOne", unfollowed := true, recurses := true, plainKeys := false, apart := false, narrowed := true }
def FnTombstoneOneUptoSaid : Prop := fnTombstoneOneUptoRow.holds Try.pinned (OpenSpec.upto fnTombstoneOneSpec)

/-- 'laws.FnPagesAll', WHERE WHAT IT READS IS OF BULK AT MOST 1048576: true; the input reads as it did. -/
def fnPagesAllUptoRow : OpenClaim := { program := "ytpankppliidaoaa", sum := "b2d128871341036d699ab29e587d8d768af856afc49c76da68b1cc385fd07352", func := "pub-stadtholder/laws.FnPagesAll", spec := "fnPagesAll", unfollowed := true, recurses := true, plainKeys := false, apart := false, narrowed := true }
def FnPagesAllUptoSaid : Prop := fnPagesAllUptoRow.holds Try.pinned (OpenSpec.upto fnPagesAllSpec)

/-- 'laws.FnHasherCounts', WHERE WHAT IT READS IS OF BULK AT MOST 1048576: true; the input reads as it did. -/
def fnHasherCountsUptoRow : OpenClaim := { program := "ytpankppliidaoaa", sum := "b2d128871341036d699ab29e587d8d768af856afc49c76da68b1cc385fd07352", func := "pub-stadtholder/laws.FnHasherCounts", spec := "fnHasherCounts", unfollowed := true, recurses := true, plainKeys := false, apart := false, narrowed := true }
def FnHasherCountsUptoSaid : Prop := fnHasherCountsUptoRow.holds Try.pinned (OpenSpec.upto fnHasherCountsSpec)

end Rows
end Go.Proofs.Ytpankppliidaoaa
