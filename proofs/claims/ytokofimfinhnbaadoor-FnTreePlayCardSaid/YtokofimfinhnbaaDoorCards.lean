/-
  DERIVED. GIVEN WITH THE SEED: THE CARDS: each row of YtokofimfinhnbaaDoorRows.lean that lists a variable, with what it lists TIED to the program's text (the seventh form; the later family's looks); each row that meets fmt, with fmt's text TOLD by the authors' own Lean function (tested against real Go, not proved from fmt's source: count such statements apart). THE CARD IS WHAT COUNTS. Prove the row's statement (the work); the ties are given (YtokofimfinhnbaaDoorTie.lean); close each card by the builder's one call (the guide's Derived/Test/ToyasCard.lean, 'card_holds'). Laid BY PROGRAM, IN A SANDBOX (cutbox-door.mjs). By AI agents, Wed Nov 11 2026. No macro, syntax, notation, axiom, sorry.
-/
import Derived.Test.YtokofimfinhnbaaDoorRows
import GoSem.ClaimSeven
namespace Go.Proofs.YtokofimfinhnbaaDoor
namespace Rows

/-- THE TIED CARD OF 'laws.FnTreeOrder'. -/
def fnTreeOrderCard : Claim7 := { stood := { row := fnTreeOrderRow, standIns := [], harness := (true, "4682fd3b7b3fb2dddc7b212444363fcefbe50585d163c415d13cbc74431f75f9"), looks := true }, kinds := [], alts := [], laidByText := true, laidKinds := [.sentinel], laidTests := true, laidLooks := .later }
def FnTreeOrderCardSaid : Prop := Claim7.holds Tryd.pinned (.plain (OpenSpec.ofChange fnTreeOrderSpec)) fnTreeOrderCard

/-- THE TIED CARD OF 'laws.FnTreePlay'. -/
def fnTreePlayCard : Claim7 := { stood := { row := fnTreePlayRow, standIns := [], harness := (true, "4682fd3b7b3fb2dddc7b212444363fcefbe50585d163c415d13cbc74431f75f9"), looks := true }, kinds := [], alts := [], laidByText := true, laidKinds := [.sentinel], laidTests := true, laidLooks := .later }
def FnTreePlayCardSaid : Prop := Claim7.holds Tryd.pinned (.plain (OpenSpec.ofChange fnTreePlaySpec)) fnTreePlayCard

/-- THE TIED CARD OF 'laws.FnTreeWithin'. -/
def fnTreeWithinCard : Claim7 := { stood := { row := fnTreeWithinRow, standIns := [], harness := (true, "4682fd3b7b3fb2dddc7b212444363fcefbe50585d163c415d13cbc74431f75f9"), looks := true }, kinds := [], alts := [], laidByText := true, laidKinds := [.sentinel], laidTests := true, laidLooks := .later }
def FnTreeWithinCardSaid : Prop := Claim7.holds Tryd.pinned (.plain (OpenSpec.ofChange fnTreeWithinSpec)) fnTreeWithinCard

/-- THE SECOND FORM's CARD OF 'laws.FnTreeOrder'. -/
def fnTreeOrderUptoCard : Claim7 := { stood := { row := fnTreeOrderUptoRow, standIns := [], harness := (true, "4682fd3b7b3fb2dddc7b212444363fcefbe50585d163c415d13cbc74431f75f9"), looks := true }, kinds := [], alts := [], laidByText := true, laidKinds := [.sentinel], laidTests := true, laidLooks := .later }
def FnTreeOrderUptoCardSaid : Prop := Claim7.holds Tryd.pinned (.plain (OpenSpec.upto fnTreeOrderSpec)) fnTreeOrderUptoCard

/-- THE SECOND FORM's CARD OF 'laws.FnTreePlay'. -/
def fnTreePlayUptoCard : Claim7 := { stood := { row := fnTreePlayUptoRow, standIns := [], harness := (true, "4682fd3b7b3fb2dddc7b212444363fcefbe50585d163c415d13cbc74431f75f9"), looks := true }, kinds := [], alts := [], laidByText := true, laidKinds := [.sentinel], laidTests := true, laidLooks := .later }
def FnTreePlayUptoCardSaid : Prop := Claim7.holds Tryd.pinned (.plain (OpenSpec.upto fnTreePlaySpec)) fnTreePlayUptoCard

/-- THE SECOND FORM's CARD OF 'laws.FnTreeWithin'. -/
def fnTreeWithinUptoCard : Claim7 := { stood := { row := fnTreeWithinUptoRow, standIns := [], harness := (true, "4682fd3b7b3fb2dddc7b212444363fcefbe50585d163c415d13cbc74431f75f9"), looks := true }, kinds := [], alts := [], laidByText := true, laidKinds := [.sentinel], laidTests := true, laidLooks := .later }
def FnTreeWithinUptoCardSaid : Prop := Claim7.holds Tryd.pinned (.plain (OpenSpec.upto fnTreeWithinSpec)) fnTreeWithinUptoCard
end Rows
end Go.Proofs.YtokofimfinhnbaaDoor
