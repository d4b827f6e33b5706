/-
  NARROWER THAN 'FOR EVERY INPUT', by the rows' own cells (each row's printed sentence says how): FnTokens: laid · FnQuoted: laid · FnFold: laid · FnContains: laid.
  DERIVED. THE GIVEN ROWS OF THIS SEAT. 4 by the template 'for every input the law returns true; each argument reads behind the call as it read before'; 0 by the template 'total and deterministic' (their statements: YtcmfbbldojhbeaaDoorTotals.lean).
  GIVEN WITH THE SEED: the statements are not yours to turn. If you find one false, say at which input.
  Laid BY PROGRAM, IN A SANDBOX (cutbox-rows.mjs): the forced cells as the released guide's own fill.sh prints them over the translation fa2f5b7632a16abe… (all of the seat's roots in one cut). By AI agents, Wed Nov 11 2026. No macro, syntax, notation, axiom, sorry.
-/
import Derived.Test.YtcmfbbldojhbeaaDoorChecked
import GoSem.PinnedTables
import GoSem.Claim
import GoSem.ClaimJoined
import GoSem.ClaimMapViews
import Derived.JoinedTies
import Derived.KernelRfl
namespace Go.Proofs.YtcmfbbldojhbeaaDoor
/- THE CELL 'sum', in the pinned program and in every row, IS THE sha256 OF THE DUMP (.gsa) THAT YtcmfbbldojhbeaaDoorProg.lean LOADS. Nothing in Lean hashes anything: it is a label: what it is worth is what the hold of that sum in a sandbox is worth. -/
noncomputable def Tryd.pinned : Pinned := { name := "ytcmfbbldojhbeaadoor", sum := "fa2f5b7632a16abe57c3e56cb76ad600f009742a3008caebfedf060650ffde1f", checked := Tryd.checked }
namespace Rows
def none {H : Type} : Left H := { results := [], args := [] }

/- WHAT THE LISTED PACKAGE-LEVEL VARIABLES READ AS WHEN THE CALL BEGINS. Each datum BY PROGRAM (the guide's laid-datum.mjs) off the statement by which the dump's own 'gosem.cut.vars' lays the variable. In a bare row this is a premise. The card (YtcmfbbldojhbeaaDoorCards.lean) ties it to the program's text. -/
def laid_loop_example_pub_g03069_pub_ws_isTokenOctet {H : Type} : DataW H := .agg [.lit (.bool false), .lit (.bool false), .lit (.bool false), .lit (.bool false), .lit (.bool false), .lit (.bool false), .lit (.bool false), .lit (.bool false), .lit (.bool false), .lit (.bool false), .lit (.bool false), .lit (.bool false), .lit (.bool false), .lit (.bool false), .lit (.bool false), .lit (.bool false), .lit (.bool false), .lit (.bool false), .lit (.bool false), .lit (.bool false), .lit (.bool false), .lit (.bool false), .lit (.bool false), .lit (.bool false), .lit (.bool false), .lit (.bool false), .lit (.bool false), .lit (.bool false), .lit (.bool false), .lit (.bool false), .lit (.bool false), .lit (.bool false), .lit (.bool false), .lit (.bool true), .lit (.bool false), .lit (.bool true), .lit (.bool true), .lit (.bool true), .lit (.bool true), .lit (.bool true), .lit (.bool false), .lit (.bool false), .lit (.bool true), .lit (.bool true), .lit (.bool false), .lit (.bool true), .lit (.bool true), .lit (.bool false), .lit (.bool true), .lit (.bool true), .lit (.bool true), .lit (.bool true), .lit (.bool true), .lit (.bool true), .lit (.bool true), .lit (.bool true), .lit (.bool true), .lit (.bool true), .lit (.bool false), .lit (.bool false), .lit (.bool false), .lit (.bool false), .lit (.bool false), .lit (.bool false), .lit (.bool false), .lit (.bool true), .lit (.bool true), .lit (.bool true), .lit (.bool true), .lit (.bool true), .lit (.bool true), .lit (.bool true), .lit (.bool true), .lit (.bool true), .lit (.bool true), .lit (.bool true), .lit (.bool true), .lit (.bool true), .lit (.bool true), .lit (.bool true), .lit (.bool true), .lit (.bool true), .lit (.bool true), .lit (.bool true), .lit (.bool true), .lit (.bool true), .lit (.bool true), .lit (.bool true), .lit (.bool true), .lit (.bool true), .lit (.bool true), .lit (.bool false), .lit (.bool false), .lit (.bool false), .lit (.bool true), .lit (.bool true), .lit (.bool true), .lit (.bool true), .lit (.bool true), .lit (.bool true), .lit (.bool true), .lit (.bool true), .lit (.bool true), .lit (.bool true), .lit (.bool true), .lit (.bool true), .lit (.bool true), .lit (.bool true), .lit (.bool true), .lit (.bool true), .lit (.bool true), .lit (.bool true), .lit (.bool true), .lit (.bool true), .lit (.bool true), .lit (.bool true), .lit (.bool true), .lit (.bool true), .lit (.bool true), .lit (.bool true), .lit (.bool true), .lit (.bool true), .lit (.bool true), .lit (.bool false), .lit (.bool true), .lit (.bool false), .lit (.bool true), .lit (.bool false), .lit (.bool false), .lit (.bool false), .lit (.bool false), .lit (.bool false), .lit (.bool false), .lit (.bool false), .lit (.bool false), .lit (.bool false), .lit (.bool false), .lit (.bool false), .lit (.bool false), .lit (.bool false), .lit (.bool false), .lit (.bool false), .lit (.bool false), .lit (.bool false), .lit (.bool false), .lit (.bool false), .lit (.bool false), .lit (.bool false), .lit (.bool false), .lit (.bool false), .lit (.bool false), .lit (.bool false), .lit (.bool false), .lit (.bool false), .lit (.bool false), .lit (.bool false), .lit (.bool false), .lit (.bool false), .lit (.bool false), .lit (.bool false), .lit (.bool false), .lit (.bool false), .lit (.bool false), .lit (.bool false), .lit (.bool false), .lit (.bool false), .lit (.bool false), .lit (.bool false), .lit (.bool false), .lit (.bool false), .lit (.bool false), .lit (.bool false), .lit (.bool false), .lit (.bool false), .lit (.bool false), .lit (.bool false), .lit (.bool false), .lit (.bool false), .lit (.bool false), .lit (.bool false), .lit (.bool false), .lit (.bool false), .lit (.bool false), .lit (.bool false), .lit (.bool false), .lit (.bool false), .lit (.bool false), .lit (.bool false), .lit (.bool false), .lit (.bool false), .lit (.bool false), .lit (.bool false), .lit (.bool false), .lit (.bool false), .lit (.bool false), .lit (.bool false), .lit (.bool false), .lit (.bool false), .lit (.bool false), .lit (.bool false), .lit (.bool false), .lit (.bool false), .lit (.bool false), .lit (.bool false), .lit (.bool false), .lit (.bool false), .lit (.bool false), .lit (.bool false), .lit (.bool false), .lit (.bool false), .lit (.bool false), .lit (.bool false), .lit (.bool false), .lit (.bool false), .lit (.bool false), .lit (.bool false), .lit (.bool false), .lit (.bool false), .lit (.bool false), .lit (.bool false), .lit (.bool false), .lit (.bool false), .lit (.bool false), .lit (.bool false), .lit (.bool false), .lit (.bool false), .lit (.bool false), .lit (.bool false), .lit (.bool false), .lit (.bool false), .lit (.bool false), .lit (.bool false), .lit (.bool false), .lit (.bool false), .lit (.bool false), .lit (.bool false), .lit (.bool false), .lit (.bool false), .lit (.bool false), .lit (.bool false), .lit (.bool false), .lit (.bool false), .lit (.bool false), .lit (.bool false), .lit (.bool false), .lit (.bool false), .lit (.bool false), .lit (.bool false), .lit (.bool false), .lit (.bool false), .lit (.bool false), .lit (.bool false), .lit (.bool false), .lit (.bool false), .lit (.bool false), .lit (.bool false)]
def laid_unicode_utf8_acceptRanges {H : Type} : DataW H := .agg [.agg [.lit (.int .u8 128), .lit (.int .u8 191)], .agg [.lit (.int .u8 160), .lit (.int .u8 191)], .agg [.lit (.int .u8 128), .lit (.int .u8 159)], .agg [.lit (.int .u8 144), .lit (.int .u8 191)], .agg [.lit (.int .u8 128), .lit (.int .u8 143)], .agg [.lit (.int .u8 0), .lit (.int .u8 0)], .agg [.lit (.int .u8 0), .lit (.int .u8 0)], .agg [.lit (.int .u8 0), .lit (.int .u8 0)], .agg [.lit (.int .u8 0), .lit (.int .u8 0)], .agg [.lit (.int .u8 0), .lit (.int .u8 0)], .agg [.lit (.int .u8 0), .lit (.int .u8 0)], .agg [.lit (.int .u8 0), .lit (.int .u8 0)], .agg [.lit (.int .u8 0), .lit (.int .u8 0)], .agg [.lit (.int .u8 0), .lit (.int .u8 0)], .agg [.lit (.int .u8 0), .lit (.int .u8 0)], .agg [.lit (.int .u8 0), .lit (.int .u8 0)]]
/-- One of Go's own tables, pinned by name: the form's constant. -/
def laid_unicode_utf8_first : DataW Unit := Go.Pinned.utf8First

/-- 'laws.FnTokens': WHATEVER THE INPUT: true; the input reads as it did. -/
def fnTokensSpec : ChangeSpec := { name := "fnTokens", vars := ["loop.example/pub-g03069/pub/ws.isTokenOctet"], fn := fun _ => fun
  | [d1, d2, g1] => { results := [.lit (.bool true)], args := [d1, d2], vars := [g1] }
  | _ => none }
def fnTokensRow : OpenClaim := { program := "ytcmfbbldojhbeaadoor", sum := "fa2f5b7632a16abe57c3e56cb76ad600f009742a3008caebfedf060650ffde1f", func := "loop.example/pub-g03069/laws.FnTokens", spec := "fnTokens", named := ["loop.example/pub-g03069/pub/ws.isTokenOctet"], apart := false, laid := [("loop.example/pub-g03069/pub/ws.isTokenOctet", laid_loop_example_pub_g03069_pub_ws_isTokenOctet)] }
def FnTokensSaid : Prop := fnTokensRow.holds Tryd.pinned (OpenSpec.ofChange fnTokensSpec)

/-- ITS FALSE NEIGHBOUR: 'it returns false'. Refute it at one input. -/
def fnTokensWrong : ChangeSpec := { name := "fnTokens", vars := ["loop.example/pub-g03069/pub/ws.isTokenOctet"], fn := fun _ => fun
  | [d1, d2, g1] => { results := [.lit (.bool false)], args := [d1, d2], vars := [g1] }
  | _ => none }
def FnTokensWrongFalsely : Prop := fnTokensRow.holds Tryd.pinned (OpenSpec.ofChange fnTokensWrong)

/-- 'laws.FnQuoted': WHATEVER THE INPUT: true; the input reads as it did. -/
def fnQuotedSpec : ChangeSpec := { name := "fnQuoted", vars := ["loop.example/pub-g03069/pub/ws.isTokenOctet"], fn := fun _ => fun
  | [d1, d2, g1] => { results := [.lit (.bool true)], args := [d1, d2], vars := [g1] }
  | _ => none }
def fnQuotedRow : OpenClaim := { program := "ytcmfbbldojhbeaadoor", sum := "fa2f5b7632a16abe57c3e56cb76ad600f009742a3008caebfedf060650ffde1f", func := "loop.example/pub-g03069/laws.FnQuoted", spec := "fnQuoted", named := ["loop.example/pub-g03069/pub/ws.isTokenOctet"], apart := false, laid := [("loop.example/pub-g03069/pub/ws.isTokenOctet", laid_loop_example_pub_g03069_pub_ws_isTokenOctet)] }
def FnQuotedSaid : Prop := fnQuotedRow.holds Tryd.pinned (OpenSpec.ofChange fnQuotedSpec)

/-- ITS FALSE NEIGHBOUR: 'it returns false'. Refute it at one input. -/
def fnQuotedWrong : ChangeSpec := { name := "fnQuoted", vars := ["loop.example/pub-g03069/pub/ws.isTokenOctet"], fn := fun _ => fun
  | [d1, d2, g1] => { results := [.lit (.bool false)], args := [d1, d2], vars := [g1] }
  | _ => none }
def FnQuotedWrongFalsely : Prop := fnQuotedRow.holds Tryd.pinned (OpenSpec.ofChange fnQuotedWrong)

/-- 'laws.FnFold': WHATEVER THE INPUT: true; the input reads as it did. -/
def fnFoldSpec : ChangeSpec := { name := "fnFold", fn := fun _ => fun
  | [d1, d2] => { results := [.lit (.bool true)], args := [d1, d2] }
  | _ => none }
def fnFoldRow : OpenClaim := { program := "ytcmfbbldojhbeaadoor", sum := "fa2f5b7632a16abe57c3e56cb76ad600f009742a3008caebfedf060650ffde1f", func := "loop.example/pub-g03069/laws.FnFold", spec := "fnFold", named := ["unicode/utf8.first", "unicode/utf8.acceptRanges"], apart := false, laid := [("unicode/utf8.acceptRanges", laid_unicode_utf8_acceptRanges), ("unicode/utf8.first", laid_unicode_utf8_first)] }
def FnFoldSaid : Prop := fnFoldRow.holds Tryd.pinned (OpenSpec.ofChange fnFoldSpec)

/-- ITS FALSE NEIGHBOUR: 'it returns false'. Refute it at one input. -/
def fnFoldWrong : ChangeSpec := { name := "fnFold", fn := fun _ => fun
  | [d1, d2] => { results := [.lit (.bool false)], args := [d1, d2] }
  | _ => none }
def FnFoldWrongFalsely : Prop := fnFoldRow.holds Tryd.pinned (OpenSpec.ofChange fnFoldWrong)

/-- 'laws.FnContains': WHATEVER THE INPUT: true; the input reads as it did. -/
def fnContainsSpec : ChangeSpec := { name := "fnContains", vars := ["loop.example/pub-g03069/pub/ws.isTokenOctet"], fn := fun _ => fun
  | [d1, d2, g1] => { results := [.lit (.bool true)], args := [d1, d2], vars := [g1] }
  | _ => none }
def fnContainsRow : OpenClaim := { program := "ytcmfbbldojhbeaadoor", sum := "fa2f5b7632a16abe57c3e56cb76ad600f009742a3008caebfedf060650ffde1f", func := "loop.example/pub-g03069/laws.FnContains", spec := "fnContains", named := ["loop.example/pub-g03069/pub/ws.isTokenOctet", "unicode/utf8.first", "unicode/utf8.acceptRanges"], apart := false, laid := [("unicode/utf8.acceptRanges", laid_unicode_utf8_acceptRanges), ("loop.example/pub-g03069/pub/ws.isTokenOctet", laid_loop_example_pub_g03069_pub_ws_isTokenOctet), ("unicode/utf8.first", laid_unicode_utf8_first)] }
def FnContainsSaid : Prop := fnContainsRow.holds Tryd.pinned (OpenSpec.ofChange fnContainsSpec)

/-- ITS FALSE NEIGHBOUR: 'it returns false'. Refute it at one input. -/
def fnContainsWrong : ChangeSpec := { name := "fnContains", vars := ["loop.example/pub-g03069/pub/ws.isTokenOctet"], fn := fun _ => fun
  | [d1, d2, g1] => { results := [.lit (.bool false)], args := [d1, d2], vars := [g1] }
  | _ => none }
def FnContainsWrongFalsely : Prop := fnContainsRow.holds Tryd.pinned (OpenSpec.ofChange fnContainsWrong)

/- THE SECOND FORM. 'bulk': how many values and letters a reading holds, each counted each time it is reached (what is shared counts as often as it is met; a slice's spare places count too). A statement '..UptoSaid' is the law's where the arguments, and the package variables that the reading takes, are together of bulk at most 1048576: NARROWER than '..Said'. Prove '..Said' where nothing that the law and all that it calls make is longer than what came in: it says more and counts as full. Else prove '..UptoSaid'. A law counts once. -/
mutual
def uptoBulk {H : Type} : DataW H → Nat
  | .lit (.string bytes) => bytes.length + 1
  | .lit _ => 1
  | .nil => 1
  | .ptr d => uptoBulk d + 1
  | .slice elems spare => uptoBulkAll elems + uptoBulkAll spare + 1
  | .agg parts => uptoBulkAll parts + 1
  | .iface _ d => uptoBulk d + 1
  | .map entries => uptoBulkEntries entries + 1
  | .held _ => 1
def uptoBulkAll {H : Type} : List (DataW H) → Nat
  | [] => 0
  | d :: r => uptoBulk d + uptoBulkAll r
def uptoBulkEntries {H : Type} : List (Lit × DataW H) → Nat
  | [] => 0
  | x :: r => uptoBulkEntry x + uptoBulkEntries r
def uptoBulkEntry {H : Type} : Lit × DataW H → Nat
  | (.string bytes, d) => bytes.length + uptoBulk d + 1
  | (_, d) => uptoBulk d + 1
 end
def uptoSmall : (H : Type) → List (DataW H) → Bool := fun _ ds => decide (uptoBulkAll ds ≤ 1048576)
def OpenSpec.upto (s : _root_.Go.ChangeSpec) : _root_.Go.OpenSpec := { _root_.Go.OpenSpec.ofChange s with cond := some uptoSmall }

/-- 'laws.FnTokens', WHERE WHAT IT READS IS OF BULK AT MOST 1048576: true; the input reads as it did. -/
def fnTokensUptoRow : OpenClaim := { program := "ytcmfbbldojhbeaadoor", sum := "fa2f5b7632a16abe57c3e56cb76ad600f009742a3008caebfedf060650ffde1f", func := "loop.example/pub-g03069/laws.FnTokens", spec := "fnTokens", named := ["loop.example/pub-g03069/pub/ws.isTokenOctet"], apart := false, laid := [("loop.example/pub-g03069/pub/ws.isTokenOctet", laid_loop_example_pub_g03069_pub_ws_isTokenOctet)], narrowed := true }
def FnTokensUptoSaid : Prop := fnTokensUptoRow.holds Tryd.pinned (OpenSpec.upto fnTokensSpec)

/-- 'laws.FnQuoted', WHERE WHAT IT READS IS OF BULK AT MOST 1048576: true; the input reads as it did. -/
def fnQuotedUptoRow : OpenClaim := { program := "ytcmfbbldojhbeaadoor", sum := "fa2f5b7632a16abe57c3e56cb76ad600f009742a3008caebfedf060650ffde1f", func := "loop.example/pub-g03069/laws.FnQuoted", spec := "fnQuoted", named := ["loop.example/pub-g03069/pub/ws.isTokenOctet"], apart := false, laid := [("loop.example/pub-g03069/pub/ws.isTokenOctet", laid_loop_example_pub_g03069_pub_ws_isTokenOctet)], narrowed := true }
def FnQuotedUptoSaid : Prop := fnQuotedUptoRow.holds Tryd.pinned (OpenSpec.upto fnQuotedSpec)

/-- 'laws.FnFold', WHERE WHAT IT READS IS OF BULK AT MOST 1048576: true; the input reads as it did. -/
def fnFoldUptoRow : OpenClaim := { program := "ytcmfbbldojhbeaadoor", sum := "fa2f5b7632a16abe57c3e56cb76ad600f009742a3008caebfedf060650ffde1f", func := "loop.example/pub-g03069/laws.FnFold", spec := "fnFold", named := ["unicode/utf8.first", "unicode/utf8.acceptRanges"], apart := false, laid := [("unicode/utf8.acceptRanges", laid_unicode_utf8_acceptRanges), ("unicode/utf8.first", laid_unicode_utf8_first)], narrowed := true }
def FnFoldUptoSaid : Prop := fnFoldUptoRow.holds Tryd.pinned (OpenSpec.upto fnFoldSpec)

/-- 'laws.FnContains', WHERE WHAT IT READS IS OF BULK AT MOST 1048576: true; the input reads as it did. -/
def fnContainsUptoRow : OpenClaim := { program := "ytcmfbbldojhbeaadoor", sum := "fa2f5b7632a16abe57c3e56cb76ad600f009742a3008caebfedf060650ffde1f", func := "loop.example/pub-g03069/laws.FnContains", spec := "fnContains", named := ["loop.example/pub-g03069/pub/ws.isTokenOctet", "unicode/utf8.first", "unicode/utf8.acceptRanges"], apart := false, laid := [("unicode/utf8.acceptRanges", laid_unicode_utf8_acceptRanges), ("loop.example/pub-g03069/pub/ws.isTokenOctet", laid_loop_example_pub_g03069_pub_ws_isTokenOctet), ("unicode/utf8.first", laid_unicode_utf8_first)], narrowed := true }
def FnContainsUptoSaid : Prop := fnContainsUptoRow.holds Tryd.pinned (OpenSpec.upto fnContainsSpec)

end Rows
end Go.Proofs.YtcmfbbldojhbeaaDoor
