/-
  DERIVED. GIVEN WITH THE SEED: THE CARDS: each row of YtkejocbhmcphiaaDoorRows.lean that lists a variable, with what it lists TIED to the program's text (the seventh form; the later family's looks); each row that meets fmt, with fmt's text TOLD by the authors' own Lean function (tested against real Go, not proved from fmt's source: count such statements apart). THE CARD IS WHAT COUNTS. Prove the row's statement (the work); the ties are given (YtkejocbhmcphiaaDoorTie.lean); close each card by the builder's one call (the guide's Derived/Test/ToyasCard.lean, 'card_holds'). Laid BY PROGRAM, IN A SANDBOX (cutbox-door.mjs). By AI agents, Wed Nov 11 2026. No macro, syntax, notation, axiom, sorry.
-/
import Derived.Test.YtkejocbhmcphiaaDoorRows
import GoSem.ClaimSeven
namespace Go.Proofs.YtkejocbhmcphiaaDoor
namespace Rows

/-- THE TIED CARD OF 'laws.FnWalBack'. -/
def fnWalBackCard : Claim7 := { stood := { row := fnWalBackRow, standIns := [], harness := (true, "eecdec652407d44cfd75c62181ecbaea9519e4c3c5b2d649b0210729018f6049"), looks := true }, kinds := [], alts := [], laidByText := true, laidKinds := [.sentinel, .sentinel], laidTests := true, laidLooks := .later }
def FnWalBackCardSaid : Prop := Claim7.holds Tryd.pinned (.plain (OpenSpec.ofChange fnWalBackSpec)) fnWalBackCard

/-- THE TIED CARD OF 'laws.FnWalSees'. -/
def fnWalSeesCard : Claim7 := { stood := { row := fnWalSeesRow, standIns := [], harness := (true, "eecdec652407d44cfd75c62181ecbaea9519e4c3c5b2d649b0210729018f6049"), looks := true }, kinds := [], alts := [], laidByText := true, laidKinds := [.sentinel, .sentinel], laidTests := true, laidLooks := .later }
def FnWalSeesCardSaid : Prop := Claim7.holds Tryd.pinned (.plain (OpenSpec.ofChange fnWalSeesSpec)) fnWalSeesCard

/-- THE TIED CARD OF 'laws.FnWalTorn'. -/
def fnWalTornCard : Claim7 := { stood := { row := fnWalTornRow, standIns := [], harness := (true, "eecdec652407d44cfd75c62181ecbaea9519e4c3c5b2d649b0210729018f6049"), looks := true }, kinds := [], alts := [], laidByText := true, laidKinds := [.sentinel, .sentinel], laidTests := true, laidLooks := .later }
def FnWalTornCardSaid : Prop := Claim7.holds Tryd.pinned (.plain (OpenSpec.ofChange fnWalTornSpec)) fnWalTornCard

/-- THE SECOND FORM's CARD OF 'laws.FnWalBack'. -/
def fnWalBackUptoCard : Claim7 := { stood := { row := fnWalBackUptoRow, standIns := [], harness := (true, "eecdec652407d44cfd75c62181ecbaea9519e4c3c5b2d649b0210729018f6049"), looks := true }, kinds := [], alts := [], laidByText := true, laidKinds := [.sentinel, .sentinel], laidTests := true, laidLooks := .later }
def FnWalBackUptoCardSaid : Prop := Claim7.holds Tryd.pinned (.plain (OpenSpec.upto fnWalBackSpec)) fnWalBackUptoCard

/-- THE SECOND FORM's CARD OF 'laws.FnWalSees'. -/
def fnWalSeesUptoCard : Claim7 := { stood := { row := fnWalSeesUptoRow, standIns := [], harness := (true, "eecdec652407d44cfd75c62181ecbaea9519e4c3c5b2d649b0210729018f6049"), looks := true }, kinds := [], alts := [], laidByText := true, laidKinds := [.sentinel, .sentinel], laidTests := true, laidLooks := .later }
def FnWalSeesUptoCardSaid : Prop := Claim7.holds Tryd.pinned (.plain (OpenSpec.upto fnWalSeesSpec)) fnWalSeesUptoCard

/-- THE SECOND FORM's CARD OF 'laws.FnWalTorn'. -/
def fnWalTornUptoCard : Claim7 := { stood := { row := fnWalTornUptoRow, standIns := [], harness := (true, "eecdec652407d44cfd75c62181ecbaea9519e4c3c5b2d649b0210729018f6049"), looks := true }, kinds := [], alts := [], laidByText := true, laidKinds := [.sentinel, .sentinel], laidTests := true, laidLooks := .later }
def FnWalTornUptoCardSaid : Prop := Claim7.holds Tryd.pinned (.plain (OpenSpec.upto fnWalTornSpec)) fnWalTornUptoCard
end Rows
end Go.Proofs.YtkejocbhmcphiaaDoor
