/-
  NARROWER THAN 'FOR EVERY INPUT', by the rows' own cells (each row's printed sentence says how): FnWalBack: laid · FnWalSees: laid · FnWalTorn: laid.
  DERIVED. THE GIVEN ROWS OF THIS SEAT. 3 by the template 'for every input the law returns true; each argument reads behind the call as it read before'; 0 by the template 'total and deterministic' (their statements: YtkejocbhmcphiaaDoorTotals.lean).
  GIVEN WITH THE SEED: the statements are not yours to turn. If you find one false, say at which input.
  Laid BY PROGRAM, IN A SANDBOX (cutbox-rows.mjs): the forced cells as the released guide's own fill.sh prints them over the translation 32fd5b28329a6361… (all of the seat's roots in one cut). By AI agents, Wed Nov 11 2026. No macro, syntax, notation, axiom, sorry.
-/
import Derived.Test.YtkejocbhmcphiaaDoorChecked
import GoSem.Claim
import GoSem.ClaimJoined
import GoSem.ClaimMapViews
import Derived.JoinedTies
import Derived.KernelRfl
namespace Go.Proofs.YtkejocbhmcphiaaDoor
/- THE CELL 'sum', in the pinned program and in every row, IS THE sha256 OF THE DUMP (.gsa) THAT YtkejocbhmcphiaaDoorProg.lean LOADS. Nothing in Lean hashes anything: it is a label: what it is worth is what the hold of that sum in a sandbox is worth. -/
noncomputable def Tryd.pinned : Pinned := { name := "ytkejocbhmcphiaadoor", sum := "32fd5b28329a636138a5d80a39b253f13d097ee282e71a53d6393316f003e296", checked := Tryd.checked }
namespace Rows
def none {H : Type} : Left H := { results := [], args := [] }

/- WHAT THE LISTED PACKAGE-LEVEL VARIABLES READ AS WHEN THE CALL BEGINS. Each datum BY PROGRAM (the guide's laid-datum.mjs) off the statement by which the dump's own 'gosem.cut.vars' lays the variable. In a bare row this is a premise. The card (YtkejocbhmcphiaaDoorCards.lean) ties it to the program's text. -/
def laid_io_EOF {H : Type} : DataW H := .iface "*errors.errorString" (.ptr (.agg [.lit (.string [69, 79, 70])]))
def laid_io_ErrUnexpectedEOF {H : Type} : DataW H := .iface "*errors.errorString" (.ptr (.agg [.lit (.string [117, 110, 101, 120, 112, 101, 99, 116, 101, 100, 32, 69, 79, 70])]))

/-- 'laws.FnWalBack': WHATEVER THE INPUT: true; the input reads as it did. -/
def fnWalBackSpec : ChangeSpec := { name := "fnWalBack", fn := fun _ => fun
  | [d1, d2, d3] => { results := [.lit (.bool true)], args := [d1, d2, d3] }
  | _ => none }
def fnWalBackRow : OpenClaim := { program := "ytkejocbhmcphiaadoor", sum := "32fd5b28329a636138a5d80a39b253f13d097ee282e71a53d6393316f003e296", func := "pub-stadtholder/laws.FnWalBack", spec := "fnWalBack", unfollowed := true, recurses := true, named := ["io.EOF", "io.ErrUnexpectedEOF"], apart := false, laid := [("io.EOF", laid_io_EOF), ("io.ErrUnexpectedEOF", laid_io_ErrUnexpectedEOF)] }
def FnWalBackSaid : Prop := fnWalBackRow.holds Tryd.pinned (OpenSpec.ofChange fnWalBackSpec)

/-- ITS FALSE NEIGHBOUR: 'it returns false'. Refute it at one input. -/
def fnWalBackWrong : ChangeSpec := { name := "fnWalBack", fn := fun _ => fun
  | [d1, d2, d3] => { results := [.lit (.bool false)], args := [d1, d2, d3] }
  | _ => none }
def FnWalBackWrongFalsely : Prop := fnWalBackRow.holds Tryd.pinned (OpenSpec.ofChange fnWalBackWrong)

/-- 'laws.FnWalSees': WHATEVER THE INPUT: true; the input reads as it did. -/
def fnWalSeesSpec : ChangeSpec := { name := "fnWalSees", fn := fun _ => fun
  | [d1, d2, d3, d4, d5] => { results := [.lit (.bool true)], args := [d1, d2, d3, d4, d5] }
  | _ => none }
def fnWalSeesRow : OpenClaim := { program := "ytkejocbhmcphiaadoor", sum := "32fd5b28329a636138a5d80a39b253f13d097ee282e71a53d6393316f003e296", func := "pub-stadtholder/laws.FnWalSees", spec := "fnWalSees", unfollowed := true, recurses := true, named := ["io.EOF", "io.ErrUnexpectedEOF"], apart := false, laid := [("io.EOF", laid_io_EOF), ("io.ErrUnexpectedEOF", laid_io_ErrUnexpectedEOF)] }
def FnWalSeesSaid : Prop := fnWalSeesRow.holds Tryd.pinned (OpenSpec.ofChange fnWalSeesSpec)

/-- ITS FALSE NEIGHBOUR: 'it returns false'. Refute it at one input. -/
def fnWalSeesWrong : ChangeSpec := { name := "fnWalSees", fn := fun _ => fun
  | [d1, d2, d3, d4, d5] => { results := [.lit (.bool false)], args := [d1, d2, d3, d4, d5] }
  | _ => none }
def FnWalSeesWrongFalsely : Prop := fnWalSeesRow.holds Tryd.pinned (OpenSpec.ofChange fnWalSeesWrong)

/-- 'laws.FnWalTorn': WHATEVER THE INPUT: true; the input reads as it did. -/
def fnWalTornSpec : ChangeSpec := { name := "fnWalTorn", fn := fun _ => fun
  | [d1, d2, d3] => { results := [.lit (.bool true)], args := [d1, d2, d3] }
  | _ => none }
def fnWalTornRow : OpenClaim := { program := "ytkejocbhmcphiaadoor", sum := "32fd5b28329a636138a5d80a39b253f13d097ee282e71a53d6393316f003e296", func := "pub-stadtholder/laws.FnWalTorn", spec := "fnWalTorn", unfollowed := true, recurses := true, named := ["io.EOF", "io.ErrUnexpectedEOF"], apart := false, laid := [("io.EOF", laid_io_EOF), ("io.ErrUnexpectedEOF", laid_io_ErrUnexpectedEOF)] }
def FnWalTornSaid : Prop := fnWalTornRow.holds Tryd.pinned (OpenSpec.ofChange fnWalTornSpec)

/-- ITS FALSE NEIGHBOUR: 'it returns false'. Refute it at one input. -/
def fnWalTornWrong : ChangeSpec := { name := "fnWalTorn", fn := fun _ => fun
  | [d1, d2, d3] => { results := [.lit (.bool false)], args := [d1, d2, d3] }
  | _ => none }
def FnWalTornWrongFalsely : Prop := fnWalTornRow.holds Tryd.pinned (OpenSpec.ofChange fnWalTornWrong)

/- THE SECOND FORM. 'bulk': how many values and letters a reading holds, each counted each time it is reached (what is shared counts as often as it is met; a slice's spare places count too). A statement '..UptoSaid' is the law's where the arguments, and the package variables that the reading takes, are together of bulk at most 1048576: NARROWER than '..Said'. Prove '..Said' where nothing that the law and all that it calls make is longer than what came in: it says more and counts as full. Else prove '..UptoSaid'. A law counts once. -/
mutual
def uptoBulk {H : Type} : DataW H → Nat
  | .lit (.string bytes) => bytes.length + 1
  | .lit _ => 1
  | .nil => 1
  | .ptr d => uptoBulk d + 1
  | .slice elems spare => uptoBulkAll elems + uptoBulkAll spare + 1
  | .agg parts => uptoBulkAll parts + 1
  | .iface _ d => uptoBulk d + 1
  | .map entries => uptoBulkEntries entries + 1
  | .held _ => 1
def uptoBulkAll {H : Type} : List (DataW H) → Nat
  | [] => 0
  | d :: r => uptoBulk d + uptoBulkAll r
def uptoBulkEntries {H : Type} : List (Lit × DataW H) → Nat
  | [] => 0
  | x :: r => uptoBulkEntry x + uptoBulkEntries r
def uptoBulkEntry {H : Type} : Lit × DataW H → Nat
  | (.string bytes, d) => bytes.length + uptoBulk d + 1
  | (_, d) => uptoBulk d + 1
 end
def uptoSmall : (H : Type) → List (DataW H) → Bool := fun _ ds => decide (uptoBulkAll ds ≤ 1048576)
def OpenSpec.upto (s : _root_.Go.ChangeSpec) : _root_.Go.OpenSpec := { _root_.Go.OpenSpec.ofChange s with cond := some uptoSmall }

/-- 'laws.FnWalBack', WHERE WHAT IT READS IS OF BULK AT MOST 1048576: true; the input reads as it did. -/
def fnWalBackUptoRow : OpenClaim := { program := "ytkejocbhmcphiaadoor", sum := "32fd5b28329a636138a5d80a39b253f13d097ee282e71a53d6393316f003e296", func := "pub-stadtholder/laws.FnWalBack", spec := "fnWalBack", unfollowed := true, recurses := true, named := ["io.EOF", "io.ErrUnexpectedEOF"], apart := false, laid := [("io.EOF", laid_io_EOF), ("io.ErrUnexpectedEOF", laid_io_ErrUnexpectedEOF)], narrowed := true }
def FnWalBackUptoSaid : Prop := fnWalBackUptoRow.holds Tryd.pinned (OpenSpec.upto fnWalBackSpec)

/-- 'laws.FnWalSees', WHERE WHAT IT READS IS OF BULK AT MOST 1048576: true; the input reads as it did. -/
def fnWalSeesUptoRow : OpenClaim := { program := "ytkejocbhmcphiaadoor", sum := "32fd5b28329a636138a5d80a39b253f13d097ee282e71a53d6393316f003e296", func := "pub-stadtholder/laws.FnWalSees", spec := "fnWalSees", unfollowed := true, recurses := true, named := ["io.EOF", "io.ErrUnexpectedEOF"], apart := false, laid := [("io.EOF", laid_io_EOF), ("io.ErrUnexpectedEOF", laid_io_ErrUnexpectedEOF)], narrowed := true }
def FnWalSeesUptoSaid : Prop := fnWalSeesUptoRow.holds Tryd.pinned (OpenSpec.upto fnWalSeesSpec)

/-- 'laws.FnWalTorn', WHERE WHAT IT READS IS OF BULK AT MOST 1048576: true; the input reads as it did. -/
def fnWalTornUptoRow : OpenClaim := { program := "ytkejocbhmcphiaadoor", sum := "32fd5b28329a636138a5d80a39b253f13d097ee282e71a53d6393316f003e296", func := "pub-stadtholder/laws.FnWalTorn", spec := "fnWalTorn", unfollowed := true, recurses := true, named := ["io.EOF", "io.ErrUnexpectedEOF"], apart := false, laid := [("io.EOF", laid_io_EOF), ("io.ErrUnexpectedEOF", laid_io_ErrUnexpectedEOF)], narrowed := true }
def FnWalTornUptoSaid : Prop := fnWalTornUptoRow.holds Tryd.pinned (OpenSpec.upto fnWalTornSpec)

end Rows
end Go.Proofs.YtkejocbhmcphiaaDoor
