/-
  DERIVED. GIVEN WITH THE SEED: THE CARDS: each row of YtjajhpgodijeoaaDoorRows.lean that lists a variable, with what it lists TIED to the program's text (the seventh form; the later family's looks); each row that meets fmt, with fmt's text TOLD by the authors' own Lean function (tested against real Go, not proved from fmt's source: count such statements apart). THE CARD IS WHAT COUNTS. Prove the row's statement (the work); the ties are given (YtjajhpgodijeoaaDoorTie.lean); close each card by the builder's one call (the guide's Derived/Test/ToyasCard.lean, 'card_holds'). Laid BY PROGRAM, IN A SANDBOX (cutbox-door.mjs). By AI agents, Wed Nov 11 2026. No macro, syntax, notation, axiom, sorry.
-/
import Derived.Test.YtjajhpgodijeoaaDoorRows
import GoSem.ClaimSeven
namespace Go.Proofs.YtjajhpgodijeoaaDoor
namespace Rows

/-- THE TIED CARD OF 'laws.FnCut'. -/
def fnCutCard : Claim7 := { stood := { row := fnCutRow, standIns := [], harness := (true, "6dec968e748998dc3fe0da0749384d739b076e76167d9e955ae2029ee9f3ccbb"), looks := true }, kinds := [], alts := [], laidByText := true, laidKinds := [.sentinel, .sentinel, .sentinel], laidTests := true, laidLooks := .later }
def FnCutCardSaid : Prop := Claim7.holds Tryd.pinned (.plain (OpenSpec.ofChange fnCutSpec)) fnCutCard

/-- THE TIED CARD OF 'laws.FnLongLine'. -/
def fnLongLineCard : Claim7 := { stood := { row := fnLongLineRow, standIns := [], harness := (true, "6dec968e748998dc3fe0da0749384d739b076e76167d9e955ae2029ee9f3ccbb"), looks := true }, kinds := [], alts := [], laidByText := true, laidKinds := [.sentinel, .sentinel, .sentinel], laidTests := true, laidLooks := .later }
def FnLongLineCardSaid : Prop := Claim7.holds Tryd.pinned (.plain (OpenSpec.ofChange fnLongLineSpec)) fnLongLineCard

/-- THE TIED CARD OF 'laws.FnPieces'. -/
def fnPiecesCard : Claim7 := { stood := { row := fnPiecesRow, standIns := [], harness := (true, "6dec968e748998dc3fe0da0749384d739b076e76167d9e955ae2029ee9f3ccbb"), looks := true }, kinds := [], alts := [], laidByText := true, laidKinds := [.sentinel, .sentinel, .sentinel], laidTests := true, laidLooks := .later }
def FnPiecesCardSaid : Prop := Claim7.holds Tryd.pinned (.plain (OpenSpec.ofChange fnPiecesSpec)) fnPiecesCard

/-- THE TIED CARD OF 'laws.FnRead'. -/
def fnReadCard : Claim7 := { stood := { row := fnReadRow, standIns := [], harness := (true, "6dec968e748998dc3fe0da0749384d739b076e76167d9e955ae2029ee9f3ccbb"), looks := true }, kinds := [], alts := [], laidByText := true, laidKinds := [.sentinel, .sentinel, .sentinel], laidTests := true, laidLooks := .later }
def FnReadCardSaid : Prop := Claim7.holds Tryd.pinned (.plain (OpenSpec.ofChange fnReadSpec)) fnReadCard

/-- THE TIED CARD OF 'laws.FnReadBack'. -/
def fnReadBackCard : Claim7 := { stood := { row := fnReadBackRow, standIns := [], harness := (true, "6dec968e748998dc3fe0da0749384d739b076e76167d9e955ae2029ee9f3ccbb"), looks := true }, kinds := [], alts := [], laidByText := true, laidKinds := [.sentinel, .sentinel, .sentinel], laidTests := true, laidLooks := .later }
def FnReadBackCardSaid : Prop := Claim7.holds Tryd.pinned (.plain (OpenSpec.ofChange fnReadBackSpec)) fnReadBackCard

/-- THE TIED CARD OF 'laws.FnWrite'. -/
def fnWriteCard : Claim7 := { stood := { row := fnWriteRow, standIns := [], harness := (true, "6dec968e748998dc3fe0da0749384d739b076e76167d9e955ae2029ee9f3ccbb"), looks := true }, kinds := [], alts := [], laidByText := true, laidKinds := [.sentinel, .sentinel, .sentinel], laidTests := true, laidLooks := .later }
def FnWriteCardSaid : Prop := Claim7.holds Tryd.pinned (.plain (OpenSpec.ofChange fnWriteSpec)) fnWriteCard

/-- THE TIED CARD OF 'laws.FnWriteFails'. -/
def fnWriteFailsCard : Claim7 := { stood := { row := fnWriteFailsRow, standIns := [], harness := (true, "6dec968e748998dc3fe0da0749384d739b076e76167d9e955ae2029ee9f3ccbb"), looks := true }, kinds := [], alts := [], laidByText := true, laidKinds := [.sentinel, .sentinel, .sentinel], laidTests := true, laidLooks := .later }
def FnWriteFailsCardSaid : Prop := Claim7.holds Tryd.pinned (.plain (OpenSpec.ofChange fnWriteFailsSpec)) fnWriteFailsCard

/-- THE SECOND FORM's CARD OF 'laws.FnCut'. -/
def fnCutUptoCard : Claim7 := { stood := { row := fnCutUptoRow, standIns := [], harness := (true, "6dec968e748998dc3fe0da0749384d739b076e76167d9e955ae2029ee9f3ccbb"), looks := true }, kinds := [], alts := [], laidByText := true, laidKinds := [.sentinel, .sentinel, .sentinel], laidTests := true, laidLooks := .later }
def FnCutUptoCardSaid : Prop := Claim7.holds Tryd.pinned (.plain (OpenSpec.upto fnCutSpec)) fnCutUptoCard

/-- THE SECOND FORM's CARD OF 'laws.FnLongLine'. -/
def fnLongLineUptoCard : Claim7 := { stood := { row := fnLongLineUptoRow, standIns := [], harness := (true, "6dec968e748998dc3fe0da0749384d739b076e76167d9e955ae2029ee9f3ccbb"), looks := true }, kinds := [], alts := [], laidByText := true, laidKinds := [.sentinel, .sentinel, .sentinel], laidTests := true, laidLooks := .later }
def FnLongLineUptoCardSaid : Prop := Claim7.holds Tryd.pinned (.plain (OpenSpec.upto fnLongLineSpec)) fnLongLineUptoCard

/-- THE SECOND FORM's CARD OF 'laws.FnPieces'. -/
def fnPiecesUptoCard : Claim7 := { stood := { row := fnPiecesUptoRow, standIns := [], harness := (true, "6dec968e748998dc3fe0da0749384d739b076e76167d9e955ae2029ee9f3ccbb"), looks := true }, kinds := [], alts := [], laidByText := true, laidKinds := [.sentinel, .sentinel, .sentinel], laidTests := true, laidLooks := .later }
def FnPiecesUptoCardSaid : Prop := Claim7.holds Tryd.pinned (.plain (OpenSpec.upto fnPiecesSpec)) fnPiecesUptoCard

/-- THE SECOND FORM's CARD OF 'laws.FnRead'. -/
def fnReadUptoCard : Claim7 := { stood := { row := fnReadUptoRow, standIns := [], harness := (true, "6dec968e748998dc3fe0da0749384d739b076e76167d9e955ae2029ee9f3ccbb"), looks := true }, kinds := [], alts := [], laidByText := true, laidKinds := [.sentinel, .sentinel, .sentinel], laidTests := true, laidLooks := .later }
def FnReadUptoCardSaid : Prop := Claim7.holds Tryd.pinned (.plain (OpenSpec.upto fnReadSpec)) fnReadUptoCard

/-- THE SECOND FORM's CARD OF 'laws.FnReadBack'. -/
def fnReadBackUptoCard : Claim7 := { stood := { row := fnReadBackUptoRow, standIns := [], harness := (true, "6dec968e748998dc3fe0da0749384d739b076e76167d9e955ae2029ee9f3ccbb"), looks := true }, kinds := [], alts := [], laidByText := true, laidKinds := [.sentinel, .sentinel, .sentinel], laidTests := true, laidLooks := .later }
def FnReadBackUptoCardSaid : Prop := Claim7.holds Tryd.pinned (.plain (OpenSpec.upto fnReadBackSpec)) fnReadBackUptoCard

/-- THE SECOND FORM's CARD OF 'laws.FnWrite'. -/
def fnWriteUptoCard : Claim7 := { stood := { row := fnWriteUptoRow, standIns := [], harness := (true, "6dec968e748998dc3fe0da0749384d739b076e76167d9e955ae2029ee9f3ccbb"), looks := true }, kinds := [], alts := [], laidByText := true, laidKinds := [.sentinel, .sentinel, .sentinel], laidTests := true, laidLooks := .later }
def FnWriteUptoCardSaid : Prop := Claim7.holds Tryd.pinned (.plain (OpenSpec.upto fnWriteSpec)) fnWriteUptoCard

/-- THE SECOND FORM's CARD OF 'laws.FnWriteFails'. -/
def fnWriteFailsUptoCard : Claim7 := { stood := { row := fnWriteFailsUptoRow, standIns := [], harness := (true, "6dec968e748998dc3fe0da0749384d739b076e76167d9e955ae2029ee9f3ccbb"), looks := true }, kinds := [], alts := [], laidByText := true, laidKinds := [.sentinel, .sentinel, .sentinel], laidTests := true, laidLooks := .later }
def FnWriteFailsUptoCardSaid : Prop := Claim7.holds Tryd.pinned (.plain (OpenSpec.upto fnWriteFailsSpec)) fnWriteFailsUptoCard
end Rows
end Go.Proofs.YtjajhpgodijeoaaDoor
