/-
  DERIVED. GIVEN WITH THE SEED: THE CARDS: each row of YtdkkkikcigjlhaaGreatDoorRows.lean that lists a variable, with what it lists TIED to the program's text (the seventh form; the later family's looks); each row that meets fmt, with fmt's text TOLD by the authors' own Lean function (tested against real Go, not proved from fmt's source: count such statements apart). THE CARD IS WHAT COUNTS. Prove the row's statement (the work); the ties are given (YtdkkkikcigjlhaaGreatDoorTie.lean); close each card by the builder's one call (the guide's Derived/Test/ToyasCard.lean, 'card_holds'). Laid BY PROGRAM, IN A SANDBOX (cutbox-door.mjs). By AI agents, Wed Nov 11 2026. No macro, syntax, notation, axiom, sorry.
-/
import Derived.Test.YtdkkkikcigjlhaaGreatDoorRows
import GoSem.ClaimSeven
namespace Go.Proofs.YtdkkkikcigjlhaaGreatDoor
namespace Rows

/-- THE TIED CARD OF 'laws.FnBatchRecovers'. -/
def fnBatchRecoversCard : Claim7 := { stood := { row := fnBatchRecoversRow, standIns := [], harness := (true, "c53280946543c9b66dc96768aafb3edb4f8969daee1d7e234f87c50a4aaf8057"), looks := true }, kinds := [], alts := [], laidByText := true, laidKinds := [.wider], laidTests := true, laidLooks := .later }
def FnBatchRecoversCardSaid : Prop := Claim7.holds Tryz.pinned (.plain (OpenSpec.ofChange fnBatchRecoversSpec)) fnBatchRecoversCard

/-- THE TIED CARD OF 'laws.FnArrayWalk'. -/
def fnArrayWalkCard : Claim7 := { stood := { row := fnArrayWalkRow, standIns := [], harness := (true, "c53280946543c9b66dc96768aafb3edb4f8969daee1d7e234f87c50a4aaf8057"), looks := true }, kinds := [], alts := [], laidByText := true, laidKinds := [.sentinel, .wider, .sentinel, .sentinel, .sentinel, .sentinel], laidTests := true, laidLooks := .later }
def FnArrayWalkCardSaid : Prop := Claim7.holds Tryz.pinned (.plain (OpenSpec.ofChange fnArrayWalkSpec)) fnArrayWalkCard

/-- THE TIED CARD OF 'laws.FnMemWalk'. -/
def fnMemWalkCard : Claim7 := { stood := { row := fnMemWalkRow, standIns := [], harness := (true, "c53280946543c9b66dc96768aafb3edb4f8969daee1d7e234f87c50a4aaf8057"), looks := true }, kinds := [], alts := [], laidByText := true, laidKinds := [.sentinel, .wider, .sentinel, .sentinel, .sentinel, .sentinel], laidTests := true, laidLooks := .later }
def FnMemWalkCardSaid : Prop := Claim7.holds Tryz.pinned (.plain (OpenSpec.ofChange fnMemWalkSpec)) fnMemWalkCard

/-- THE TIED CARD OF 'laws.FnMergedWalk'. -/
def fnMergedWalkCard : Claim7 := { stood := { row := fnMergedWalkRow, standIns := [], harness := (true, "c53280946543c9b66dc96768aafb3edb4f8969daee1d7e234f87c50a4aaf8057"), looks := true }, kinds := [], alts := [], laidByText := true, laidKinds := [.sentinel, .wider, .sentinel, .sentinel, .sentinel, .sentinel], laidTests := true, laidLooks := .later }
def FnMergedWalkCardSaid : Prop := Claim7.holds Tryz.pinned (.plain (OpenSpec.ofChange fnMergedWalkSpec)) fnMergedWalkCard

/-- THE TIED CARD OF 'laws.FnIndexedWalk'. -/
def fnIndexedWalkCard : Claim7 := { stood := { row := fnIndexedWalkRow, standIns := [], harness := (true, "c53280946543c9b66dc96768aafb3edb4f8969daee1d7e234f87c50a4aaf8057"), looks := true }, kinds := [], alts := [], laidByText := true, laidKinds := [.sentinel, .wider, .sentinel, .sentinel, .sentinel, .sentinel], laidTests := true, laidLooks := .later }
def FnIndexedWalkCardSaid : Prop := Claim7.holds Tryz.pinned (.plain (OpenSpec.ofChange fnIndexedWalkSpec)) fnIndexedWalkCard

/-- THE TIED CARD OF 'laws.FnMemMap'. -/
def fnMemMapCard : Claim7 := { stood := { row := fnMemMapRow, standIns := [], harness := (true, "c53280946543c9b66dc96768aafb3edb4f8969daee1d7e234f87c50a4aaf8057"), looks := true }, kinds := [], alts := [], laidByText := true, laidKinds := [.sentinel, .wider, .sentinel, .sentinel, .sentinel, .sentinel], laidTests := true, laidLooks := .later }
def FnMemMapCardSaid : Prop := Claim7.holds Tryz.pinned (.plain (OpenSpec.ofChange fnMemMapSpec)) fnMemMapCard

/-- THE SECOND FORM's CARD OF 'laws.FnBatchRecovers'. -/
def fnBatchRecoversUptoCard : Claim7 := { stood := { row := fnBatchRecoversUptoRow, standIns := [], harness := (true, "c53280946543c9b66dc96768aafb3edb4f8969daee1d7e234f87c50a4aaf8057"), looks := true }, kinds := [], alts := [], laidByText := true, laidKinds := [.wider], laidTests := true, laidLooks := .later }
def FnBatchRecoversUptoCardSaid : Prop := Claim7.holds Tryz.pinned (.plain (OpenSpec.upto fnBatchRecoversSpec)) fnBatchRecoversUptoCard

/-- THE SECOND FORM's CARD OF 'laws.FnArrayWalk'. -/
def fnArrayWalkUptoCard : Claim7 := { stood := { row := fnArrayWalkUptoRow, standIns := [], harness := (true, "c53280946543c9b66dc96768aafb3edb4f8969daee1d7e234f87c50a4aaf8057"), looks := true }, kinds := [], alts := [], laidByText := true, laidKinds := [.sentinel, .wider, .sentinel, .sentinel, .sentinel, .sentinel], laidTests := true, laidLooks := .later }
def FnArrayWalkUptoCardSaid : Prop := Claim7.holds Tryz.pinned (.plain (OpenSpec.upto fnArrayWalkSpec)) fnArrayWalkUptoCard

/-- THE SECOND FORM's CARD OF 'laws.FnMemWalk'. -/
def fnMemWalkUptoCard : Claim7 := { stood := { row := fnMemWalkUptoRow, standIns := [], harness := (true, "c53280946543c9b66dc96768aafb3edb4f8969daee1d7e234f87c50a4aaf8057"), looks := true }, kinds := [], alts := [], laidByText := true, laidKinds := [.sentinel, .wider, .sentinel, .sentinel, .sentinel, .sentinel], laidTests := true, laidLooks := .later }
def FnMemWalkUptoCardSaid : Prop := Claim7.holds Tryz.pinned (.plain (OpenSpec.upto fnMemWalkSpec)) fnMemWalkUptoCard

/-- THE SECOND FORM's CARD OF 'laws.FnMergedWalk'. -/
def fnMergedWalkUptoCard : Claim7 := { stood := { row := fnMergedWalkUptoRow, standIns := [], harness := (true, "c53280946543c9b66dc96768aafb3edb4f8969daee1d7e234f87c50a4aaf8057"), looks := true }, kinds := [], alts := [], laidByText := true, laidKinds := [.sentinel, .wider, .sentinel, .sentinel, .sentinel, .sentinel], laidTests := true, laidLooks := .later }
def FnMergedWalkUptoCardSaid : Prop := Claim7.holds Tryz.pinned (.plain (OpenSpec.upto fnMergedWalkSpec)) fnMergedWalkUptoCard

/-- THE SECOND FORM's CARD OF 'laws.FnIndexedWalk'. -/
def fnIndexedWalkUptoCard : Claim7 := { stood := { row := fnIndexedWalkUptoRow, standIns := [], harness := (true, "c53280946543c9b66dc96768aafb3edb4f8969daee1d7e234f87c50a4aaf8057"), looks := true }, kinds := [], alts := [], laidByText := true, laidKinds := [.sentinel, .wider, .sentinel, .sentinel, .sentinel, .sentinel], laidTests := true, laidLooks := .later }
def FnIndexedWalkUptoCardSaid : Prop := Claim7.holds Tryz.pinned (.plain (OpenSpec.upto fnIndexedWalkSpec)) fnIndexedWalkUptoCard

/-- THE SECOND FORM's CARD OF 'laws.FnMemMap'. -/
def fnMemMapUptoCard : Claim7 := { stood := { row := fnMemMapUptoRow, standIns := [], harness := (true, "c53280946543c9b66dc96768aafb3edb4f8969daee1d7e234f87c50a4aaf8057"), looks := true }, kinds := [], alts := [], laidByText := true, laidKinds := [.sentinel, .wider, .sentinel, .sentinel, .sentinel, .sentinel], laidTests := true, laidLooks := .later }
def FnMemMapUptoCardSaid : Prop := Claim7.holds Tryz.pinned (.plain (OpenSpec.upto fnMemMapSpec)) fnMemMapUptoCard
end Rows
end Go.Proofs.YtdkkkikcigjlhaaGreatDoor
