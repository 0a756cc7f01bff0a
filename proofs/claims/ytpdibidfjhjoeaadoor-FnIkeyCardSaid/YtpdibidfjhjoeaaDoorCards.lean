/-
  DERIVED. GIVEN WITH THE SEED: THE CARDS: each row of YtpdibidfjhjoeaaDoorRows.lean that lists a variable, with what it lists TIED to the program's text (the seventh form; the later family's looks); each row that meets fmt, with fmt's text TOLD by the authors' own Lean function (tested against real Go, not proved from fmt's source: count such statements apart). THE CARD IS WHAT COUNTS. Prove the row's statement (the work); the ties are given (YtpdibidfjhjoeaaDoorTie.lean); close each card by the builder's one call (the guide's Derived/Test/ToyasCard.lean, 'card_holds'). Laid BY PROGRAM, IN A SANDBOX (cutbox-door.mjs). By AI agents, Wed Nov 11 2026. No macro, syntax, notation, axiom, sorry.
-/
import Derived.Test.YtpdibidfjhjoeaaDoorRows
import GoSem.ClaimSeven
namespace Go.Proofs.YtpdibidfjhjoeaaDoor
namespace Rows

/-- THE TIED CARD OF 'laws.FnSeparator'. -/
def fnSeparatorCard : Claim7 := { stood := { row := fnSeparatorRow, standIns := [], harness := (true, "1b72d1d039ce8be201eb24c7cc820508e0d1d1d94841ae68c2ab09644490c837"), looks := false }, kinds := [], alts := [], laidByText := true, laidKinds := [.wider], laidTests := true, laidLooks := .later }
def FnSeparatorCardSaid : Prop := Claim7.holds Tryd.pinned (.plain (OpenSpec.ofChange fnSeparatorSpec)) fnSeparatorCard

/-- THE TIED CARD OF 'laws.FnOrders'. -/
def fnOrdersCard : Claim7 := { stood := { row := fnOrdersRow, standIns := [], harness := (true, "1b72d1d039ce8be201eb24c7cc820508e0d1d1d94841ae68c2ab09644490c837"), looks := false }, kinds := [], alts := [], laidByText := true, laidKinds := [.wider], laidTests := true, laidLooks := .later }
def FnOrdersCardSaid : Prop := Claim7.holds Tryd.pinned (.plain (OpenSpec.ofChange fnOrdersSpec)) fnOrdersCard

/-- THE TIED CARD OF 'laws.FnIkeys'. -/
def fnIkeysCard : Claim7 := { stood := { row := fnIkeysRow, standIns := [], harness := (true, "1b72d1d039ce8be201eb24c7cc820508e0d1d1d94841ae68c2ab09644490c837"), looks := false }, kinds := [], alts := [], laidByText := true, laidKinds := [.wider], laidTests := true, laidLooks := .later }
def FnIkeysCardSaid : Prop := Claim7.holds Tryd.pinned (.plain (OpenSpec.ofChange fnIkeysSpec)) fnIkeysCard

/-- THE TIED CARD OF 'laws.FnIkey'. -/
def fnIkeyCard : Claim7 := { stood := { row := fnIkeyRow, standIns := [], harness := (true, "1b72d1d039ce8be201eb24c7cc820508e0d1d1d94841ae68c2ab09644490c837"), looks := false }, kinds := [], alts := [], laidByText := true, laidKinds := [.wider], laidTests := true, laidLooks := .later }
def FnIkeyCardSaid : Prop := Claim7.holds Tryd.pinned (.plain (OpenSpec.ofChange fnIkeySpec)) fnIkeyCard

/-- THE SECOND FORM's CARD OF 'laws.FnSeparator'. -/
def fnSeparatorUptoCard : Claim7 := { stood := { row := fnSeparatorUptoRow, standIns := [], harness := (true, "1b72d1d039ce8be201eb24c7cc820508e0d1d1d94841ae68c2ab09644490c837"), looks := false }, kinds := [], alts := [], laidByText := true, laidKinds := [.wider], laidTests := true, laidLooks := .later }
def FnSeparatorUptoCardSaid : Prop := Claim7.holds Tryd.pinned (.plain (OpenSpec.upto fnSeparatorSpec)) fnSeparatorUptoCard

/-- THE SECOND FORM's CARD OF 'laws.FnOrders'. -/
def fnOrdersUptoCard : Claim7 := { stood := { row := fnOrdersUptoRow, standIns := [], harness := (true, "1b72d1d039ce8be201eb24c7cc820508e0d1d1d94841ae68c2ab09644490c837"), looks := false }, kinds := [], alts := [], laidByText := true, laidKinds := [.wider], laidTests := true, laidLooks := .later }
def FnOrdersUptoCardSaid : Prop := Claim7.holds Tryd.pinned (.plain (OpenSpec.upto fnOrdersSpec)) fnOrdersUptoCard

/-- THE SECOND FORM's CARD OF 'laws.FnIkeys'. -/
def fnIkeysUptoCard : Claim7 := { stood := { row := fnIkeysUptoRow, standIns := [], harness := (true, "1b72d1d039ce8be201eb24c7cc820508e0d1d1d94841ae68c2ab09644490c837"), looks := false }, kinds := [], alts := [], laidByText := true, laidKinds := [.wider], laidTests := true, laidLooks := .later }
def FnIkeysUptoCardSaid : Prop := Claim7.holds Tryd.pinned (.plain (OpenSpec.upto fnIkeysSpec)) fnIkeysUptoCard

/-- THE SECOND FORM's CARD OF 'laws.FnIkey'. -/
def fnIkeyUptoCard : Claim7 := { stood := { row := fnIkeyUptoRow, standIns := [], harness := (true, "1b72d1d039ce8be201eb24c7cc820508e0d1d1d94841ae68c2ab09644490c837"), looks := false }, kinds := [], alts := [], laidByText := true, laidKinds := [.wider], laidTests := true, laidLooks := .later }
def FnIkeyUptoCardSaid : Prop := Claim7.holds Tryd.pinned (.plain (OpenSpec.upto fnIkeySpec)) fnIkeyUptoCard
end Rows
end Go.Proofs.YtpdibidfjhjoeaaDoor
