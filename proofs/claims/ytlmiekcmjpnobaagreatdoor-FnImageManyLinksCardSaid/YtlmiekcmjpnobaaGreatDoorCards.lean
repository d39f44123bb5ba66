/-
  DERIVED. GIVEN WITH THE SEED: THE CARDS: each row of YtlmiekcmjpnobaaGreatDoorRows.lean that lists a variable, with what it lists TIED to the program's text (the seventh form; the later family's looks); each row that meets fmt, with fmt's text TOLD by the authors' own Lean function (tested against real Go, not proved from fmt's source: count such statements apart). THE CARD IS WHAT COUNTS. Prove the row's statement (the work); the ties are given (YtlmiekcmjpnobaaGreatDoorTie.lean); close each card by the builder's one call (the guide's Derived/Test/ToyasCard.lean, 'card_holds'). Laid BY PROGRAM, IN A SANDBOX (cutbox-door.mjs). By AI agents, Wed Nov 11 2026. No macro, syntax, notation, axiom, sorry.
-/
import Derived.Test.YtlmiekcmjpnobaaGreatDoorRows
import GoSem.ClaimSeven
namespace Go.Proofs.YtlmiekcmjpnobaaGreatDoor
namespace Rows

/-- THE TIED CARD OF 'laws.FnImageCopy'. -/
def fnImageCopyCard : Claim7 := { stood := { row := fnImageCopyRow, standIns := [], harness := (true, "5cee74edaf667018006ff90996f3bbacde1a28feb666744d82dcf6ef95eb1b66"), looks := true }, kinds := [], alts := [], laidByText := true, laidKinds := [.data], laidTests := true, laidLooks := .later }
def FnImageCopyCardSaid : Prop := Claim7.holds Tryz.pinned (.plain (OpenSpec.ofChange fnImageCopySpec)) fnImageCopyCard

/-- THE TIED CARD OF 'laws.FnImageFrame'. -/
def fnImageFrameCard : Claim7 := { stood := { row := fnImageFrameRow, standIns := [], harness := (true, "5cee74edaf667018006ff90996f3bbacde1a28feb666744d82dcf6ef95eb1b66"), looks := true }, kinds := [], alts := [], laidByText := true, laidKinds := [.data], laidTests := true, laidLooks := .later }
def FnImageFrameCardSaid : Prop := Claim7.holds Tryz.pinned (.plain (OpenSpec.ofChange fnImageFrameSpec)) fnImageFrameCard

/-- THE TIED CARD OF 'laws.FnImageManyLinks'. -/
def fnImageManyLinksCard : Claim7 := { stood := { row := fnImageManyLinksRow, standIns := [], harness := (true, "5cee74edaf667018006ff90996f3bbacde1a28feb666744d82dcf6ef95eb1b66"), looks := true }, kinds := [], alts := [], laidByText := true, laidKinds := [.data], laidTests := true, laidLooks := .later }
def FnImageManyLinksCardSaid : Prop := Claim7.holds Tryz.pinned (.plain (OpenSpec.ofChange fnImageManyLinksSpec)) fnImageManyLinksCard

/-- THE TIED CARD OF 'laws.FnImageMax'. -/
def fnImageMaxCard : Claim7 := { stood := { row := fnImageMaxRow, standIns := [], harness := (true, "5cee74edaf667018006ff90996f3bbacde1a28feb666744d82dcf6ef95eb1b66"), looks := true }, kinds := [], alts := [], laidByText := true, laidKinds := [.data], laidTests := true, laidLooks := .later }
def FnImageMaxCardSaid : Prop := Claim7.holds Tryz.pinned (.plain (OpenSpec.ofChange fnImageMaxSpec)) fnImageMaxCard

/-- THE SECOND FORM's CARD OF 'laws.FnImageCopy'. -/
def fnImageCopyUptoCard : Claim7 := { stood := { row := fnImageCopyUptoRow, standIns := [], harness := (true, "5cee74edaf667018006ff90996f3bbacde1a28feb666744d82dcf6ef95eb1b66"), looks := true }, kinds := [], alts := [], laidByText := true, laidKinds := [.data], laidTests := true, laidLooks := .later }
def FnImageCopyUptoCardSaid : Prop := Claim7.holds Tryz.pinned (.plain (OpenSpec.upto fnImageCopySpec)) fnImageCopyUptoCard

/-- THE SECOND FORM's CARD OF 'laws.FnImageFrame'. -/
def fnImageFrameUptoCard : Claim7 := { stood := { row := fnImageFrameUptoRow, standIns := [], harness := (true, "5cee74edaf667018006ff90996f3bbacde1a28feb666744d82dcf6ef95eb1b66"), looks := true }, kinds := [], alts := [], laidByText := true, laidKinds := [.data], laidTests := true, laidLooks := .later }
def FnImageFrameUptoCardSaid : Prop := Claim7.holds Tryz.pinned (.plain (OpenSpec.upto fnImageFrameSpec)) fnImageFrameUptoCard

/-- THE SECOND FORM's CARD OF 'laws.FnImageManyLinks'. -/
def fnImageManyLinksUptoCard : Claim7 := { stood := { row := fnImageManyLinksUptoRow, standIns := [], harness := (true, "5cee74edaf667018006ff90996f3bbacde1a28feb666744d82dcf6ef95eb1b66"), looks := true }, kinds := [], alts := [], laidByText := true, laidKinds := [.data], laidTests := true, laidLooks := .later }
def FnImageManyLinksUptoCardSaid : Prop := Claim7.holds Tryz.pinned (.plain (OpenSpec.upto fnImageManyLinksSpec)) fnImageManyLinksUptoCard

/-- THE SECOND FORM's CARD OF 'laws.FnImageMax'. -/
def fnImageMaxUptoCard : Claim7 := { stood := { row := fnImageMaxUptoRow, standIns := [], harness := (true, "5cee74edaf667018006ff90996f3bbacde1a28feb666744d82dcf6ef95eb1b66"), looks := true }, kinds := [], alts := [], laidByText := true, laidKinds := [.data], laidTests := true, laidLooks := .later }
def FnImageMaxUptoCardSaid : Prop := Claim7.holds Tryz.pinned (.plain (OpenSpec.upto fnImageMaxSpec)) fnImageMaxUptoCard
end Rows
end Go.Proofs.YtlmiekcmjpnobaaGreatDoor
