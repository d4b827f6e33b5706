/-
  DERIVED. GIVEN WITH THE SEED: THE CARDS: each row of YtcmfbbldojhbeaaDoorRows.lean that lists a variable, with what it lists TIED to the program's text (the seventh form; the later family's looks); each row that meets fmt, with fmt's text TOLD by the authors' own Lean function (tested against real Go, not proved from fmt's source: count such statements apart). THE CARD IS WHAT COUNTS. Prove the row's statement (the work); the ties are given (YtcmfbbldojhbeaaDoorTie.lean); close each card by the builder's one call (the guide's Derived/Test/ToyasCard.lean, 'card_holds'). Laid BY PROGRAM, IN A SANDBOX (cutbox-door.mjs). By AI agents, Wed Nov 11 2026. No macro, syntax, notation, axiom, sorry.
-/
import Derived.Test.YtcmfbbldojhbeaaDoorRows
import GoSem.ClaimSeven
namespace Go.Proofs.YtcmfbbldojhbeaaDoor
namespace Rows

/-- THE TIED CARD OF 'laws.FnTokens'. -/
def fnTokensCard : Claim7 := { stood := { row := fnTokensRow, standIns := [], harness := (true, "d39f9fc1bb65647754fe326edfab8845d6ac871b309bb3fbb04450672d844bce"), looks := false }, kinds := [], alts := [], laidByText := true, laidKinds := [.data], laidTests := true, laidLooks := .later }
def FnTokensCardSaid : Prop := Claim7.holds Tryd.pinned (.plain (OpenSpec.ofChange fnTokensSpec)) fnTokensCard

/-- THE TIED CARD OF 'laws.FnQuoted'. -/
def fnQuotedCard : Claim7 := { stood := { row := fnQuotedRow, standIns := [], harness := (true, "d39f9fc1bb65647754fe326edfab8845d6ac871b309bb3fbb04450672d844bce"), looks := false }, kinds := [], alts := [], laidByText := true, laidKinds := [.data], laidTests := true, laidLooks := .later }
def FnQuotedCardSaid : Prop := Claim7.holds Tryd.pinned (.plain (OpenSpec.ofChange fnQuotedSpec)) fnQuotedCard

/-- THE TIED CARD OF 'laws.FnFold'. -/
def fnFoldCard : Claim7 := { stood := { row := fnFoldRow, standIns := [], harness := (true, "d39f9fc1bb65647754fe326edfab8845d6ac871b309bb3fbb04450672d844bce"), looks := false }, kinds := [], alts := [], laidByText := true, laidKinds := [.data, .pinned], laidTests := true, laidLooks := .later }
def FnFoldCardSaid : Prop := Claim7.holds Tryd.pinned (.plain (OpenSpec.ofChange fnFoldSpec)) fnFoldCard

/-- THE TIED CARD OF 'laws.FnContains'. -/
def fnContainsCard : Claim7 := { stood := { row := fnContainsRow, standIns := [], harness := (true, "d39f9fc1bb65647754fe326edfab8845d6ac871b309bb3fbb04450672d844bce"), looks := false }, kinds := [], alts := [], laidByText := true, laidKinds := [.data, .data, .pinned], laidTests := true, laidLooks := .later }
def FnContainsCardSaid : Prop := Claim7.holds Tryd.pinned (.plain (OpenSpec.ofChange fnContainsSpec)) fnContainsCard

/-- THE SECOND FORM's CARD OF 'laws.FnTokens'. -/
def fnTokensUptoCard : Claim7 := { stood := { row := fnTokensUptoRow, standIns := [], harness := (true, "d39f9fc1bb65647754fe326edfab8845d6ac871b309bb3fbb04450672d844bce"), looks := false }, kinds := [], alts := [], laidByText := true, laidKinds := [.data], laidTests := true, laidLooks := .later }
def FnTokensUptoCardSaid : Prop := Claim7.holds Tryd.pinned (.plain (OpenSpec.upto fnTokensSpec)) fnTokensUptoCard

/-- THE SECOND FORM's CARD OF 'laws.FnQuoted'. -/
def fnQuotedUptoCard : Claim7 := { stood := { row := fnQuotedUptoRow, standIns := [], harness := (true, "d39f9fc1bb65647754fe326edfab8845d6ac871b309bb3fbb04450672d844bce"), looks := false }, kinds := [], alts := [], laidByText := true, laidKinds := [.data], laidTests := true, laidLooks := .later }
def FnQuotedUptoCardSaid : Prop := Claim7.holds Tryd.pinned (.plain (OpenSpec.upto fnQuotedSpec)) fnQuotedUptoCard

/-- THE SECOND FORM's CARD OF 'laws.FnFold'. -/
def fnFoldUptoCard : Claim7 := { stood := { row := fnFoldUptoRow, standIns := [], harness := (true, "d39f9fc1bb65647754fe326edfab8845d6ac871b309bb3fbb04450672d844bce"), looks := false }, kinds := [], alts := [], laidByText := true, laidKinds := [.data, .pinned], laidTests := true, laidLooks := .later }
def FnFoldUptoCardSaid : Prop := Claim7.holds Tryd.pinned (.plain (OpenSpec.upto fnFoldSpec)) fnFoldUptoCard

/-- THE SECOND FORM's CARD OF 'laws.FnContains'. -/
def fnContainsUptoCard : Claim7 := { stood := { row := fnContainsUptoRow, standIns := [], harness := (true, "d39f9fc1bb65647754fe326edfab8845d6ac871b309bb3fbb04450672d844bce"), looks := false }, kinds := [], alts := [], laidByText := true, laidKinds := [.data, .data, .pinned], laidTests := true, laidLooks := .later }
def FnContainsUptoCardSaid : Prop := Claim7.holds Tryd.pinned (.plain (OpenSpec.upto fnContainsSpec)) fnContainsUptoCard
end Rows
end Go.Proofs.YtcmfbbldojhbeaaDoor
