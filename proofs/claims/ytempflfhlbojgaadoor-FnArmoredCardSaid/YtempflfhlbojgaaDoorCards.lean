/-
  DERIVED. GIVEN WITH THE SEED: THE CARDS: each row of YtempflfhlbojgaaDoorRows.lean that lists a variable, with what it lists TIED to the program's text (the seventh form; the later family's looks); each row that meets fmt, with fmt's text TOLD by the authors' own Lean function (tested against real Go, not proved from fmt's source: count such statements apart). THE CARD IS WHAT COUNTS. Prove the row's statement (the work); the ties are given (YtempflfhlbojgaaDoorTie.lean); close each card by the builder's one call (the guide's Derived/Test/ToyasCard.lean, 'card_holds'). Laid BY PROGRAM, IN A SANDBOX (cutbox-door.mjs). By AI agents, Wed Nov 11 2026. No macro, syntax, notation, axiom, sorry.
-/
import Derived.Test.YtempflfhlbojgaaDoorRows
import GoSem.ClaimSeven
namespace Go.Proofs.YtempflfhlbojgaaDoor
namespace Rows

/-- THE TIED CARD OF 'laws.FnUnarmored'. -/
def fnUnarmoredCard : Claim7 := { stood := { row := fnUnarmoredRow, standIns := [], harness := (true, "4b28dc28662c38dea79876060f59a7d89ae5d7aff649fe7bf9b856bf6a16fa87"), looks := true }, kinds := [], alts := [], laidByText := true, laidKinds := [.sentinel], laidTests := true, laidLooks := .later }
def FnUnarmoredCardSaid : Prop := Claim7.holds Tryd.pinned (.plain (OpenSpec.ofChange fnUnarmoredSpec)) fnUnarmoredCard

/-- THE TIED CARD OF 'laws.FnArmored'. -/
def fnArmoredCard : Claim7 := { stood := { row := fnArmoredRow, standIns := [], harness := (true, "4b28dc28662c38dea79876060f59a7d89ae5d7aff649fe7bf9b856bf6a16fa87"), looks := true }, kinds := [], alts := [], laidByText := true, laidKinds := [.sentinel, .sentinel, .sentinel], laidTests := true, laidLooks := .later }
def FnArmoredCardSaid : Prop := Claim7.holds Tryd.pinned (.plain (OpenSpec.ofChange fnArmoredSpec)) fnArmoredCard

/-- THE SECOND FORM's CARD OF 'laws.FnUnarmored'. -/
def fnUnarmoredUptoCard : Claim7 := { stood := { row := fnUnarmoredUptoRow, standIns := [], harness := (true, "4b28dc28662c38dea79876060f59a7d89ae5d7aff649fe7bf9b856bf6a16fa87"), looks := true }, kinds := [], alts := [], laidByText := true, laidKinds := [.sentinel], laidTests := true, laidLooks := .later }
def FnUnarmoredUptoCardSaid : Prop := Claim7.holds Tryd.pinned (.plain (OpenSpec.upto fnUnarmoredSpec)) fnUnarmoredUptoCard

/-- THE SECOND FORM's CARD OF 'laws.FnArmored'. -/
def fnArmoredUptoCard : Claim7 := { stood := { row := fnArmoredUptoRow, standIns := [], harness := (true, "4b28dc28662c38dea79876060f59a7d89ae5d7aff649fe7bf9b856bf6a16fa87"), looks := true }, kinds := [], alts := [], laidByText := true, laidKinds := [.sentinel, .sentinel, .sentinel], laidTests := true, laidLooks := .later }
def FnArmoredUptoCardSaid : Prop := Claim7.holds Tryd.pinned (.plain (OpenSpec.upto fnArmoredSpec)) fnArmoredUptoCard
end Rows
end Go.Proofs.YtempflfhlbojgaaDoor
