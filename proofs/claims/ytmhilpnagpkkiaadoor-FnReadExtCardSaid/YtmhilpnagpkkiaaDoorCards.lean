/-
  DERIVED. GIVEN WITH THE SEED: THE CARDS: each row of YtmhilpnagpkkiaaDoorRows.lean that lists a variable, with what it lists TIED to the program's text (the seventh form; the later family's looks); each row that meets fmt, with fmt's text TOLD by the authors' own Lean function (tested against real Go, not proved from fmt's source: count such statements apart). THE CARD IS WHAT COUNTS. Prove the row's statement (the work); the ties are given (YtmhilpnagpkkiaaDoorTie.lean); close each card by the builder's one call (the guide's Derived/Test/ToyasCard.lean, 'card_holds'). Laid BY PROGRAM, IN A SANDBOX (cutbox-door.mjs). By AI agents, Wed Nov 11 2026. No macro, syntax, notation, axiom, sorry.
-/
import Derived.Test.YtmhilpnagpkkiaaDoorRows
import GoSem.ClaimSeven
namespace Go.Proofs.YtmhilpnagpkkiaaDoor
namespace Rows

/-- THE TIED CARD OF 'laws.FnReadSmall'. -/
def fnReadSmallCard : Claim7 := { stood := { row := fnReadSmallRow, standIns := [], harness := (true, "3d870468b5c87ca9c8bd4877d2440a99b53d381ad9abcbfd5143bbf94442e687"), looks := true }, kinds := [], alts := [], laidByText := true, laidKinds := [.wider, .wider], laidTests := true, laidLooks := .later }
def FnReadSmallCardSaid : Prop := Claim7.holds Tryd.pinned (.plain (OpenSpec.ofChange fnReadSmallSpec)) fnReadSmallCard

/-- THE TIED CARD OF 'laws.FnSkip'. -/
def fnSkipCard : Claim7 := { stood := { row := fnSkipRow, standIns := [], harness := (true, "3d870468b5c87ca9c8bd4877d2440a99b53d381ad9abcbfd5143bbf94442e687"), looks := true }, kinds := [], alts := [], laidByText := true, laidKinds := [.wider, .wider, .wider], laidTests := true, laidLooks := .later }
def FnSkipCardSaid : Prop := Claim7.holds Tryd.pinned (.plain (OpenSpec.ofChange fnSkipSpec)) fnSkipCard

/-- THE TIED CARD OF 'laws.FnSkipCut'. -/
def fnSkipCutCard : Claim7 := { stood := { row := fnSkipCutRow, standIns := [], harness := (true, "3d870468b5c87ca9c8bd4877d2440a99b53d381ad9abcbfd5143bbf94442e687"), looks := true }, kinds := [], alts := [], laidByText := true, laidKinds := [.wider, .wider, .wider], laidTests := true, laidLooks := .later }
def FnSkipCutCardSaid : Prop := Claim7.holds Tryd.pinned (.plain (OpenSpec.ofChange fnSkipCutSpec)) fnSkipCutCard

/-- THE TIED CARD OF 'laws.FnReadText'. -/
def fnReadTextCard : Claim7 := { stood := { row := fnReadTextRow, standIns := [], harness := (true, "3d870468b5c87ca9c8bd4877d2440a99b53d381ad9abcbfd5143bbf94442e687"), looks := true }, kinds := [], alts := [], laidByText := true, laidKinds := [.wider, .wider], laidTests := true, laidLooks := .later }
def FnReadTextCardSaid : Prop := Claim7.holds Tryd.pinned (.plain (OpenSpec.ofChange fnReadTextSpec)) fnReadTextCard

/-- THE TIED CARD OF 'laws.FnReadBin'. -/
def fnReadBinCard : Claim7 := { stood := { row := fnReadBinRow, standIns := [], harness := (true, "3d870468b5c87ca9c8bd4877d2440a99b53d381ad9abcbfd5143bbf94442e687"), looks := true }, kinds := [], alts := [], laidByText := true, laidKinds := [.wider, .wider], laidTests := true, laidLooks := .later }
def FnReadBinCardSaid : Prop := Claim7.holds Tryd.pinned (.plain (OpenSpec.ofChange fnReadBinSpec)) fnReadBinCard

/-- THE TIED CARD OF 'laws.FnReadExt'. -/
def fnReadExtCard : Claim7 := { stood := { row := fnReadExtRow, standIns := [], harness := (true, "3d870468b5c87ca9c8bd4877d2440a99b53d381ad9abcbfd5143bbf94442e687"), looks := true }, kinds := [], alts := [], laidByText := true, laidKinds := [.wider, .wider], laidTests := true, laidLooks := .later }
def FnReadExtCardSaid : Prop := Claim7.holds Tryd.pinned (.plain (OpenSpec.ofChange fnReadExtSpec)) fnReadExtCard

/-- THE TIED CARD OF 'laws.FnReadHeads'. -/
def fnReadHeadsCard : Claim7 := { stood := { row := fnReadHeadsRow, standIns := [], harness := (true, "3d870468b5c87ca9c8bd4877d2440a99b53d381ad9abcbfd5143bbf94442e687"), looks := true }, kinds := [], alts := [], laidByText := true, laidKinds := [.wider, .wider], laidTests := true, laidLooks := .later }
def FnReadHeadsCardSaid : Prop := Claim7.holds Tryd.pinned (.plain (OpenSpec.ofChange fnReadHeadsSpec)) fnReadHeadsCard

/-- THE TIED CARD OF 'laws.FnReadInt'. -/
def fnReadIntCard : Claim7 := { stood := { row := fnReadIntRow, standIns := [], harness := (true, "3d870468b5c87ca9c8bd4877d2440a99b53d381ad9abcbfd5143bbf94442e687"), looks := true }, kinds := [], alts := [], laidByText := true, laidKinds := [.wider, .wider], laidTests := true, laidLooks := .later }
def FnReadIntCardSaid : Prop := Claim7.holds Tryd.pinned (.plain (OpenSpec.ofChange fnReadIntSpec)) fnReadIntCard

/-- THE TIED CARD OF 'laws.FnReadUint'. -/
def fnReadUintCard : Claim7 := { stood := { row := fnReadUintRow, standIns := [], harness := (true, "3d870468b5c87ca9c8bd4877d2440a99b53d381ad9abcbfd5143bbf94442e687"), looks := true }, kinds := [], alts := [], laidByText := true, laidKinds := [.wider, .wider], laidTests := true, laidLooks := .later }
def FnReadUintCardSaid : Prop := Claim7.holds Tryd.pinned (.plain (OpenSpec.ofChange fnReadUintSpec)) fnReadUintCard

/-- THE SECOND FORM's CARD OF 'laws.FnReadSmall'. -/
def fnReadSmallUptoCard : Claim7 := { stood := { row := fnReadSmallUptoRow, standIns := [], harness := (true, "3d870468b5c87ca9c8bd4877d2440a99b53d381ad9abcbfd5143bbf94442e687"), looks := true }, kinds := [], alts := [], laidByText := true, laidKinds := [.wider, .wider], laidTests := true, laidLooks := .later }
def FnReadSmallUptoCardSaid : Prop := Claim7.holds Tryd.pinned (.plain (OpenSpec.upto fnReadSmallSpec)) fnReadSmallUptoCard

/-- THE SECOND FORM's CARD OF 'laws.FnSkip'. -/
def fnSkipUptoCard : Claim7 := { stood := { row := fnSkipUptoRow, standIns := [], harness := (true, "3d870468b5c87ca9c8bd4877d2440a99b53d381ad9abcbfd5143bbf94442e687"), looks := true }, kinds := [], alts := [], laidByText := true, laidKinds := [.wider, .wider, .wider], laidTests := true, laidLooks := .later }
def FnSkipUptoCardSaid : Prop := Claim7.holds Tryd.pinned (.plain (OpenSpec.upto fnSkipSpec)) fnSkipUptoCard

/-- THE SECOND FORM's CARD OF 'laws.FnSkipCut'. -/
def fnSkipCutUptoCard : Claim7 := { stood := { row := fnSkipCutUptoRow, standIns := [], harness := (true, "3d870468b5c87ca9c8bd4877d2440a99b53d381ad9abcbfd5143bbf94442e687"), looks := true }, kinds := [], alts := [], laidByText := true, laidKinds := [.wider, .wider, .wider], laidTests := true, laidLooks := .later }
def FnSkipCutUptoCardSaid : Prop := Claim7.holds Tryd.pinned (.plain (OpenSpec.upto fnSkipCutSpec)) fnSkipCutUptoCard

/-- THE SECOND FORM's CARD OF 'laws.FnReadText'. -/
def fnReadTextUptoCard : Claim7 := { stood := { row := fnReadTextUptoRow, standIns := [], harness := (true, "3d870468b5c87ca9c8bd4877d2440a99b53d381ad9abcbfd5143bbf94442e687"), looks := true }, kinds := [], alts := [], laidByText := true, laidKinds := [.wider, .wider], laidTests := true, laidLooks := .later }
def FnReadTextUptoCardSaid : Prop := Claim7.holds Tryd.pinned (.plain (OpenSpec.upto fnReadTextSpec)) fnReadTextUptoCard

/-- THE SECOND FORM's CARD OF 'laws.FnReadBin'. -/
def fnReadBinUptoCard : Claim7 := { stood := { row := fnReadBinUptoRow, standIns := [], harness := (true, "3d870468b5c87ca9c8bd4877d2440a99b53d381ad9abcbfd5143bbf94442e687"), looks := true }, kinds := [], alts := [], laidByText := true, laidKinds := [.wider, .wider], laidTests := true, laidLooks := .later }
def FnReadBinUptoCardSaid : Prop := Claim7.holds Tryd.pinned (.plain (OpenSpec.upto fnReadBinSpec)) fnReadBinUptoCard

/-- THE SECOND FORM's CARD OF 'laws.FnReadExt'. -/
def fnReadExtUptoCard : Claim7 := { stood := { row := fnReadExtUptoRow, standIns := [], harness := (true, "3d870468b5c87ca9c8bd4877d2440a99b53d381ad9abcbfd5143bbf94442e687"), looks := true }, kinds := [], alts := [], laidByText := true, laidKinds := [.wider, .wider], laidTests := true, laidLooks := .later }
def FnReadExtUptoCardSaid : Prop := Claim7.holds Tryd.pinned (.plain (OpenSpec.upto fnReadExtSpec)) fnReadExtUptoCard

/-- THE SECOND FORM's CARD OF 'laws.FnReadHeads'. -/
def fnReadHeadsUptoCard : Claim7 := { stood := { row := fnReadHeadsUptoRow, standIns := [], harness := (true, "3d870468b5c87ca9c8bd4877d2440a99b53d381ad9abcbfd5143bbf94442e687"), looks := true }, kinds := [], alts := [], laidByText := true, laidKinds := [.wider, .wider], laidTests := true, laidLooks := .later }
def FnReadHeadsUptoCardSaid : Prop := Claim7.holds Tryd.pinned (.plain (OpenSpec.upto fnReadHeadsSpec)) fnReadHeadsUptoCard

/-- THE SECOND FORM's CARD OF 'laws.FnReadInt'. -/
def fnReadIntUptoCard : Claim7 := { stood := { row := fnReadIntUptoRow, standIns := [], harness := (true, "3d870468b5c87ca9c8bd4877d2440a99b53d381ad9abcbfd5143bbf94442e687"), looks := true }, kinds := [], alts := [], laidByText := true, laidKinds := [.wider, .wider], laidTests := true, laidLooks := .later }
def FnReadIntUptoCardSaid : Prop := Claim7.holds Tryd.pinned (.plain (OpenSpec.upto fnReadIntSpec)) fnReadIntUptoCard

/-- THE SECOND FORM's CARD OF 'laws.FnReadUint'. -/
def fnReadUintUptoCard : Claim7 := { stood := { row := fnReadUintUptoRow, standIns := [], harness := (true, "3d870468b5c87ca9c8bd4877d2440a99b53d381ad9abcbfd5143bbf94442e687"), looks := true }, kinds := [], alts := [], laidByText := true, laidKinds := [.wider, .wider], laidTests := true, laidLooks := .later }
def FnReadUintUptoCardSaid : Prop := Claim7.holds Tryd.pinned (.plain (OpenSpec.upto fnReadUintSpec)) fnReadUintUptoCard
end Rows
end Go.Proofs.YtmhilpnagpkkiaaDoor
