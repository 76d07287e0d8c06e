/-
  DERIVED. GIVEN WITH THE SEED: THE CARDS: each row of YtpmdlbbgljcloaaDoorRows.lean that lists a variable, with what it lists TIED to the program's text (the seventh form; the later family's looks); each row that meets fmt, with fmt's text TOLD by the authors' own Lean function (tested against real Go, not proved from fmt's source: count such statements apart). THE CARD IS WHAT COUNTS. Prove the row's statement (the work); the ties are given (YtpmdlbbgljcloaaDoorTie.lean); close each card by the builder's one call (the guide's Derived/Test/ToyasCard.lean, 'card_holds'). Laid BY PROGRAM, IN A SANDBOX (cutbox-door.mjs). By AI agents, Wed Nov 11 2026. No macro, syntax, notation, axiom, sorry.
-/
import Derived.Test.YtpmdlbbgljcloaaDoorRows
import GoSem.ClaimSeven
namespace Go.Proofs.YtpmdlbbgljcloaaDoor
namespace Rows

/-- THE TIED CARD OF 'laws.FnIntText'. -/
def fnIntTextCard : Claim7 := { stood := { row := fnIntTextRow, standIns := [], harness := (true, "3133cb011b1e447d5e3dccfb1ff6d28508bf4e3daa4c0492f6202219228c0d31"), looks := true }, kinds := [], alts := [], laidByText := true, laidKinds := [.wider, .wider], laidTests := true, laidLooks := .later }
def FnIntTextCardSaid : Prop := Claim7.holds Tryd.pinned (.plain (OpenSpec.ofChange fnIntTextSpec)) fnIntTextCard

/-- THE TIED CARD OF 'laws.FnSmall'. -/
def fnSmallCard : Claim7 := { stood := { row := fnSmallRow, standIns := [], harness := (true, "3133cb011b1e447d5e3dccfb1ff6d28508bf4e3daa4c0492f6202219228c0d31"), looks := true }, kinds := [], alts := [], laidByText := true, laidKinds := [.wider, .wider], laidTests := true, laidLooks := .later }
def FnSmallCardSaid : Prop := Claim7.holds Tryd.pinned (.plain (OpenSpec.ofChange fnSmallSpec)) fnSmallCard

/-- THE TIED CARD OF 'laws.FnNumbersMixed'. -/
def fnNumbersMixedCard : Claim7 := { stood := { row := fnNumbersMixedRow, standIns := [], harness := (true, "3133cb011b1e447d5e3dccfb1ff6d28508bf4e3daa4c0492f6202219228c0d31"), looks := true }, kinds := [], alts := [], laidByText := true, laidKinds := [.wider, .wider], laidTests := true, laidLooks := .later }
def FnNumbersMixedCardSaid : Prop := Claim7.holds Tryd.pinned (.plain (OpenSpec.ofChange fnNumbersMixedSpec)) fnNumbersMixedCard

/-- THE TIED CARD OF 'laws.FnComplex'. -/
def fnComplexCard : Claim7 := { stood := { row := fnComplexRow, standIns := [], harness := (true, "3133cb011b1e447d5e3dccfb1ff6d28508bf4e3daa4c0492f6202219228c0d31"), looks := true }, kinds := [], alts := [], laidByText := true, laidKinds := [.wider, .wider], laidTests := true, laidLooks := .later }
def FnComplexCardSaid : Prop := Claim7.holds Tryd.pinned (.plain (OpenSpec.ofChange fnComplexSpec)) fnComplexCard

/-- THE TIED CARD OF 'laws.FnFloats'. -/
def fnFloatsCard : Claim7 := { stood := { row := fnFloatsRow, standIns := [], harness := (true, "3133cb011b1e447d5e3dccfb1ff6d28508bf4e3daa4c0492f6202219228c0d31"), looks := true }, kinds := [], alts := [], laidByText := true, laidKinds := [.wider, .wider], laidTests := true, laidLooks := .later }
def FnFloatsCardSaid : Prop := Claim7.holds Tryd.pinned (.plain (OpenSpec.ofChange fnFloatsSpec)) fnFloatsCard

/-- THE TIED CARD OF 'laws.FnText'. -/
def fnTextCard : Claim7 := { stood := { row := fnTextRow, standIns := [], harness := (true, "3133cb011b1e447d5e3dccfb1ff6d28508bf4e3daa4c0492f6202219228c0d31"), looks := true }, kinds := [], alts := [], laidByText := true, laidKinds := [.wider, .wider], laidTests := true, laidLooks := .later }
def FnTextCardSaid : Prop := Claim7.holds Tryd.pinned (.plain (OpenSpec.ofChange fnTextSpec)) fnTextCard

/-- THE TIED CARD OF 'laws.FnBin'. -/
def fnBinCard : Claim7 := { stood := { row := fnBinRow, standIns := [], harness := (true, "3133cb011b1e447d5e3dccfb1ff6d28508bf4e3daa4c0492f6202219228c0d31"), looks := true }, kinds := [], alts := [], laidByText := true, laidKinds := [.wider, .wider], laidTests := true, laidLooks := .later }
def FnBinCardSaid : Prop := Claim7.holds Tryd.pinned (.plain (OpenSpec.ofChange fnBinSpec)) fnBinCard

/-- THE TIED CARD OF 'laws.FnNumbersBelow'. -/
def fnNumbersBelowCard : Claim7 := { stood := { row := fnNumbersBelowRow, standIns := [], harness := (true, "3133cb011b1e447d5e3dccfb1ff6d28508bf4e3daa4c0492f6202219228c0d31"), looks := true }, kinds := [], alts := [], laidByText := true, laidKinds := [.wider, .wider], laidTests := true, laidLooks := .later }
def FnNumbersBelowCardSaid : Prop := Claim7.holds Tryd.pinned (.plain (OpenSpec.ofChange fnNumbersBelowSpec)) fnNumbersBelowCard

/-- THE TIED CARD OF 'laws.FnExt'. -/
def fnExtCard : Claim7 := { stood := { row := fnExtRow, standIns := [], harness := (true, "3133cb011b1e447d5e3dccfb1ff6d28508bf4e3daa4c0492f6202219228c0d31"), looks := true }, kinds := [], alts := [], laidByText := true, laidKinds := [.wider, .wider], laidTests := true, laidLooks := .later }
def FnExtCardSaid : Prop := Claim7.holds Tryd.pinned (.plain (OpenSpec.ofChange fnExtSpec)) fnExtCard

/-- THE TIED CARD OF 'laws.FnHeads'. -/
def fnHeadsCard : Claim7 := { stood := { row := fnHeadsRow, standIns := [], harness := (true, "3133cb011b1e447d5e3dccfb1ff6d28508bf4e3daa4c0492f6202219228c0d31"), looks := true }, kinds := [], alts := [], laidByText := true, laidKinds := [.wider, .wider], laidTests := true, laidLooks := .later }
def FnHeadsCardSaid : Prop := Claim7.holds Tryd.pinned (.plain (OpenSpec.ofChange fnHeadsSpec)) fnHeadsCard

/-- THE TIED CARD OF 'laws.FnUintText'. -/
def fnUintTextCard : Claim7 := { stood := { row := fnUintTextRow, standIns := [], harness := (true, "3133cb011b1e447d5e3dccfb1ff6d28508bf4e3daa4c0492f6202219228c0d31"), looks := true }, kinds := [], alts := [], laidByText := true, laidKinds := [.wider, .wider], laidTests := true, laidLooks := .later }
def FnUintTextCardSaid : Prop := Claim7.holds Tryd.pinned (.plain (OpenSpec.ofChange fnUintTextSpec)) fnUintTextCard

/-- THE SECOND FORM's CARD OF 'laws.FnIntText'. -/
def fnIntTextUptoCard : Claim7 := { stood := { row := fnIntTextUptoRow, standIns := [], harness := (true, "3133cb011b1e447d5e3dccfb1ff6d28508bf4e3daa4c0492f6202219228c0d31"), looks := true }, kinds := [], alts := [], laidByText := true, laidKinds := [.wider, .wider], laidTests := true, laidLooks := .later }
def FnIntTextUptoCardSaid : Prop := Claim7.holds Tryd.pinned (.plain (OpenSpec.upto fnIntTextSpec)) fnIntTextUptoCard

/-- THE SECOND FORM's CARD OF 'laws.FnSmall'. -/
def fnSmallUptoCard : Claim7 := { stood := { row := fnSmallUptoRow, standIns := [], harness := (true, "3133cb011b1e447d5e3dccfb1ff6d28508bf4e3daa4c0492f6202219228c0d31"), looks := true }, kinds := [], alts := [], laidByText := true, laidKinds := [.wider, .wider], laidTests := true, laidLooks := .later }
def FnSmallUptoCardSaid : Prop := Claim7.holds Tryd.pinned (.plain (OpenSpec.upto fnSmallSpec)) fnSmallUptoCard

/-- THE SECOND FORM's CARD OF 'laws.FnNumbersMixed'. -/
def fnNumbersMixedUptoCard : Claim7 := { stood := { row := fnNumbersMixedUptoRow, standIns := [], harness := (true, "3133cb011b1e447d5e3dccfb1ff6d28508bf4e3daa4c0492f6202219228c0d31"), looks := true }, kinds := [], alts := [], laidByText := true, laidKinds := [.wider, .wider], laidTests := true, laidLooks := .later }
def FnNumbersMixedUptoCardSaid : Prop := Claim7.holds Tryd.pinned (.plain (OpenSpec.upto fnNumbersMixedSpec)) fnNumbersMixedUptoCard

/-- THE SECOND FORM's CARD OF 'laws.FnComplex'. -/
def fnComplexUptoCard : Claim7 := { stood := { row := fnComplexUptoRow, standIns := [], harness := (true, "3133cb011b1e447d5e3dccfb1ff6d28508bf4e3daa4c0492f6202219228c0d31"), looks := true }, kinds := [], alts := [], laidByText := true, laidKinds := [.wider, .wider], laidTests := true, laidLooks := .later }
def FnComplexUptoCardSaid : Prop := Claim7.holds Tryd.pinned (.plain (OpenSpec.upto fnComplexSpec)) fnComplexUptoCard

/-- THE SECOND FORM's CARD OF 'laws.FnFloats'. -/
def fnFloatsUptoCard : Claim7 := { stood := { row := fnFloatsUptoRow, standIns := [], harness := (true, "3133cb011b1e447d5e3dccfb1ff6d28508bf4e3daa4c0492f6202219228c0d31"), looks := true }, kinds := [], alts := [], laidByText := true, laidKinds := [.wider, .wider], laidTests := true, laidLooks := .later }
def FnFloatsUptoCardSaid : Prop := Claim7.holds Tryd.pinned (.plain (OpenSpec.upto fnFloatsSpec)) fnFloatsUptoCard

/-- THE SECOND FORM's CARD OF 'laws.FnText'. -/
def fnTextUptoCard : Claim7 := { stood := { row := fnTextUptoRow, standIns := [], harness := (true, "3133cb011b1e447d5e3dccfb1ff6d28508bf4e3daa4c0492f6202219228c0d31"), looks := true }, kinds := [], alts := [], laidByText := true, laidKinds := [.wider, .wider], laidTests := true, laidLooks := .later }
def FnTextUptoCardSaid : Prop := Claim7.holds Tryd.pinned (.plain (OpenSpec.upto fnTextSpec)) fnTextUptoCard

/-- THE SECOND FORM's CARD OF 'laws.FnBin'. -/
def fnBinUptoCard : Claim7 := { stood := { row := fnBinUptoRow, standIns := [], harness := (true, "3133cb011b1e447d5e3dccfb1ff6d28508bf4e3daa4c0492f6202219228c0d31"), looks := true }, kinds := [], alts := [], laidByText := true, laidKinds := [.wider, .wider], laidTests := true, laidLooks := .later }
def FnBinUptoCardSaid : Prop := Claim7.holds Tryd.pinned (.plain (OpenSpec.upto fnBinSpec)) fnBinUptoCard

/-- THE SECOND FORM's CARD OF 'laws.FnNumbersBelow'. -/
def fnNumbersBelowUptoCard : Claim7 := { stood := { row := fnNumbersBelowUptoRow, standIns := [], harness := (true, "3133cb011b1e447d5e3dccfb1ff6d28508bf4e3daa4c0492f6202219228c0d31"), looks := true }, kinds := [], alts := [], laidByText := true, laidKinds := [.wider, .wider], laidTests := true, laidLooks := .later }
def FnNumbersBelowUptoCardSaid : Prop := Claim7.holds Tryd.pinned (.plain (OpenSpec.upto fnNumbersBelowSpec)) fnNumbersBelowUptoCard

/-- THE SECOND FORM's CARD OF 'laws.FnExt'. -/
def fnExtUptoCard : Claim7 := { stood := { row := fnExtUptoRow, standIns := [], harness := (true, "3133cb011b1e447d5e3dccfb1ff6d28508bf4e3daa4c0492f6202219228c0d31"), looks := true }, kinds := [], alts := [], laidByText := true, laidKinds := [.wider, .wider], laidTests := true, laidLooks := .later }
def FnExtUptoCardSaid : Prop := Claim7.holds Tryd.pinned (.plain (OpenSpec.upto fnExtSpec)) fnExtUptoCard

/-- THE SECOND FORM's CARD OF 'laws.FnHeads'. -/
def fnHeadsUptoCard : Claim7 := { stood := { row := fnHeadsUptoRow, standIns := [], harness := (true, "3133cb011b1e447d5e3dccfb1ff6d28508bf4e3daa4c0492f6202219228c0d31"), looks := true }, kinds := [], alts := [], laidByText := true, laidKinds := [.wider, .wider], laidTests := true, laidLooks := .later }
def FnHeadsUptoCardSaid : Prop := Claim7.holds Tryd.pinned (.plain (OpenSpec.upto fnHeadsSpec)) fnHeadsUptoCard

/-- THE SECOND FORM's CARD OF 'laws.FnUintText'. -/
def fnUintTextUptoCard : Claim7 := { stood := { row := fnUintTextUptoRow, standIns := [], harness := (true, "3133cb011b1e447d5e3dccfb1ff6d28508bf4e3daa4c0492f6202219228c0d31"), looks := true }, kinds := [], alts := [], laidByText := true, laidKinds := [.wider, .wider], laidTests := true, laidLooks := .later }
def FnUintTextUptoCardSaid : Prop := Claim7.holds Tryd.pinned (.plain (OpenSpec.upto fnUintTextSpec)) fnUintTextUptoCard
end Rows
end Go.Proofs.YtpmdlbbgljcloaaDoor
