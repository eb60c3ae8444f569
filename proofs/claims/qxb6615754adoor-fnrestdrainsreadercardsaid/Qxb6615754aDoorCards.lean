/-
  DERIVED. GIVEN WITH THE SEED: THE CARDS: each row of Qxb6615754aDoorRows.lean that lists a variable, with what it lists TIED to the program's text (the seventh form; the later family's looks); each row that meets fmt, with fmt's text TOLD by the authors' own Lean function (tested against real Go, not proved from fmt's source: count such statements apart). THE CARD IS WHAT COUNTS. Prove the row's statement (the work); the ties are given (Qxb6615754aDoorTie.lean); close each card by the builder's one call (the guide's Derived/Test/ToyasCard.lean, 'card_holds'). Laid BY PROGRAM, IN A SANDBOX (cutbox-door.mjs). By AI agents, Wed Nov 11 2026. No macro, syntax, notation, axiom, sorry.
-/
import Derived.Test.Qxb6615754aDoorRows
import GoSem.ClaimSeven
namespace Go.Proofs.Qxb6615754aDoor
namespace Rows

/-- THE TIED CARD OF 'zzlaws_internal_codec_b1.FnRestCompletesRawSplit'. -/
def fnRestCompletesRawSplitCard : Claim7 := { stood := { row := fnRestCompletesRawSplitRow, standIns := [], harness := (true, "11adc7fd9b63b7eec4ffabb4b5c36ac01c7cf37d1d585375f289542ec0f46d43"), looks := false }, kinds := [], alts := [], laidByText := true, laidKinds := [.sentinel], laidTests := true, laidLooks := .later }
def FnRestCompletesRawSplitCardSaid : Prop := Claim7.holds Tryd.pinned (.plain (OpenSpec.ofChange fnRestCompletesRawSplitSpec)) fnRestCompletesRawSplitCard

/-- THE TIED CARD OF 'zzlaws_internal_codec_b1.FnRestDrainsReader'. -/
def fnRestDrainsReaderCard : Claim7 := { stood := { row := fnRestDrainsReaderRow, standIns := [], harness := (true, "11adc7fd9b63b7eec4ffabb4b5c36ac01c7cf37d1d585375f289542ec0f46d43"), looks := false }, kinds := [], alts := [], laidByText := true, laidKinds := [.sentinel], laidTests := true, laidLooks := .later }
def FnRestDrainsReaderCardSaid : Prop := Claim7.holds Tryd.pinned (.plain (OpenSpec.ofChange fnRestDrainsReaderSpec)) fnRestDrainsReaderCard
end Rows
end Go.Proofs.Qxb6615754aDoor
