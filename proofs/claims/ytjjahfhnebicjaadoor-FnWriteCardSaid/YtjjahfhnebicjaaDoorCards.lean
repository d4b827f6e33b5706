/-
  DERIVED. GIVEN WITH THE SEED: THE CARDS: each row of YtjjahfhnebicjaaDoorRows.lean that lists a variable, with what it lists TIED to the program's text (the seventh form; the later family's looks); each row that meets fmt, with fmt's text TOLD by the authors' own Lean function (tested against real Go, not proved from fmt's source: count such statements apart). THE CARD IS WHAT COUNTS. Prove the row's statement (the work); the ties are given (YtjjahfhnebicjaaDoorTie.lean); close each card by the builder's one call (the guide's Derived/Test/ToyasCard.lean, 'card_holds'). Laid BY PROGRAM, IN A SANDBOX (cutbox-door.mjs). By AI agents, Wed Nov 11 2026. No macro, syntax, notation, axiom, sorry.
-/
import Derived.Test.YtjjahfhnebicjaaDoorRows
import GoSem.ClaimSeven
namespace Go.Proofs.YtjjahfhnebicjaaDoor
namespace Rows

/-- THE TIED CARD OF 'laws.FnWrite'. -/
def fnWriteCard : Claim7 := { stood := { row := fnWriteRow, standIns := [], harness := (true, "1cc17cc98e2c97688ce7d7fde257c997f75c1bccf85896013a13595ec3540f32"), looks := true }, kinds := [], alts := [], laidByText := true, laidKinds := [.sentinel, .sentinel, .sentinel, .sentinel, .sentinel], laidTests := true, laidLooks := .later }
def FnWriteCardSaid : Prop := Claim7.holds Tryd.pinned (.plain (OpenSpec.ofChange fnWriteSpec)) fnWriteCard

/-- THE SECOND FORM's CARD OF 'laws.FnWrite'. -/
def fnWriteUptoCard : Claim7 := { stood := { row := fnWriteUptoRow, standIns := [], harness := (true, "1cc17cc98e2c97688ce7d7fde257c997f75c1bccf85896013a13595ec3540f32"), looks := true }, kinds := [], alts := [], laidByText := true, laidKinds := [.sentinel, .sentinel, .sentinel, .sentinel, .sentinel], laidTests := true, laidLooks := .later }
def FnWriteUptoCardSaid : Prop := Claim7.holds Tryd.pinned (.plain (OpenSpec.upto fnWriteSpec)) fnWriteUptoCard
end Rows
end Go.Proofs.YtjjahfhnebicjaaDoor
