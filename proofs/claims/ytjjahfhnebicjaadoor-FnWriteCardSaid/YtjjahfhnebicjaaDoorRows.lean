/-
  NARROWER THAN 'FOR EVERY INPUT', by the rows' own cells (each row's printed sentence says how): FnWrite: ifaces, laid.
  DERIVED. THE GIVEN ROWS OF THIS SEAT. 1 by the template 'for every input the law returns true; each argument reads behind the call as it read before'; 0 by the template 'total and deterministic' (their statements: YtjjahfhnebicjaaDoorTotals.lean).
  GIVEN WITH THE SEED: the statements are not yours to turn. If you find one false, say at which input.
  Laid BY PROGRAM, IN A SANDBOX (cutbox-rows.mjs): the forced cells as the released guide's own fill.sh prints them over the translation 1204b5ec05e1a823… (all of the seat's roots in one cut). By AI agents, Wed Nov 11 2026. No macro, syntax, notation, axiom, sorry.
-/
import Derived.Test.YtjjahfhnebicjaaDoorChecked
import GoSem.Claim
import GoSem.ClaimJoined
import GoSem.ClaimMapViews
import Derived.JoinedTies
import Derived.KernelRfl
namespace Go.Proofs.YtjjahfhnebicjaaDoor
/- THE CELL 'sum', in the pinned program and in every row, IS THE sha256 OF THE DUMP (.gsa) THAT YtjjahfhnebicjaaDoorProg.lean LOADS. Nothing in Lean hashes anything: it is a label: what it is worth is what the hold of that sum in a sandbox is worth. -/
noncomputable def Tryd.pinned : Pinned := { name := "ytjjahfhnebicjaadoor", sum := "1204b5ec05e1a823e7b541c1b3a8a2d924cc0722a662143e643eff0cc832bfe2", checked := Tryd.checked }
namespace Rows
def none {H : Type} : Left H := { results := [], args := [] }

/- WHAT THE LISTED PACKAGE-LEVEL VARIABLES READ AS WHEN THE CALL BEGINS. Each datum BY PROGRAM (the guide's laid-datum.mjs) off the statement by which the dump's own 'gosem.cut.vars' lays the variable. In a bare row this is a premise. The card (YtjjahfhnebicjaaDoorCards.lean) ties it to the program's text. -/
def laid_loop_example_pub_g03069_pub_ws_ErrCloseSent {H : Type} : DataW H := .iface "*errors.errorString" (.ptr (.agg [.lit (.string [119, 101, 98, 115, 111, 99, 107, 101, 116, 58, 32, 99, 108, 111, 115, 101, 32, 115, 101, 110, 116])]))
def laid_loop_example_pub_g03069_pub_ws_errBadWriteOpCode {H : Type} : DataW H := .iface "*errors.errorString" (.ptr (.agg [.lit (.string [119, 101, 98, 115, 111, 99, 107, 101, 116, 58, 32, 98, 97, 100, 32, 119, 114, 105, 116, 101, 32, 109, 101, 115, 115, 97, 103, 101, 32, 116, 121, 112, 101])]))
def laid_loop_example_pub_g03069_pub_ws_errWriteClosed {H : Type} : DataW H := .iface "*errors.errorString" (.ptr (.agg [.lit (.string [119, 101, 98, 115, 111, 99, 107, 101, 116, 58, 32, 119, 114, 105, 116, 101, 32, 99, 108, 111, 115, 101, 100])]))
def laid_loop_example_pub_g03069_pub_ws_errInvalidControlFrame {H : Type} : DataW H := .iface "*errors.errorString" (.ptr (.agg [.lit (.string [119, 101, 98, 115, 111, 99, 107, 101, 116, 58, 32, 105, 110, 118, 97, 108, 105, 100, 32, 99, 111, 110, 116, 114, 111, 108, 32, 102, 114, 97, 109, 101])]))
def laid_loop_example_pub_g03069_impl_errCode {H : Type} : DataW H := .iface "*errors.errorString" (.ptr (.agg [.lit (.string [99, 111, 100, 101])]))

/-- 'laws.FnWrite': WHATEVER THE INPUT: true; the input reads as it did. -/
def fnWriteSpec : ChangeSpec := { name := "fnWrite", vars := ["loop.example/pub-g03069/pub/ws.errBadWriteOpCode", "loop.example/pub-g03069/pub/ws.errInvalidControlFrame", "loop.example/pub-g03069/pub/ws.ErrCloseSent", "loop.example/pub-g03069/impl.errCode", "loop.example/pub-g03069/pub/ws.errWriteClosed"], fn := fun _ => fun
  | [d1, d2, d3, d4, g1, g2, g3, g4, g5] => { results := [.lit (.bool true)], args := [d1, d2, d3, d4], vars := [g1, g2, g3, g4, g5] }
  | _ => none }
def fnWriteRow : OpenClaim := { program := "ytjjahfhnebicjaadoor", sum := "1204b5ec05e1a823e7b541c1b3a8a2d924cc0722a662143e643eff0cc832bfe2", func := "loop.example/pub-g03069/laws.FnWrite", spec := "fnWrite", unfollowed := true, recurses := true, named := ["encoding/binary.BigEndian", "loop.example/pub-g03069/pub/ws.errBadWriteOpCode", "loop.example/pub-g03069/pub/ws.errInvalidControlFrame", "loop.example/pub-g03069/pub/ws.ErrCloseSent", "loop.example/pub-g03069/impl.errCode", "loop.example/pub-g03069/pub/ws.errWriteClosed"], ifaces := true, apart := false, laid := [("loop.example/pub-g03069/pub/ws.ErrCloseSent", laid_loop_example_pub_g03069_pub_ws_ErrCloseSent), ("loop.example/pub-g03069/pub/ws.errBadWriteOpCode", laid_loop_example_pub_g03069_pub_ws_errBadWriteOpCode), ("loop.example/pub-g03069/pub/ws.errWriteClosed", laid_loop_example_pub_g03069_pub_ws_errWriteClosed), ("loop.example/pub-g03069/pub/ws.errInvalidControlFrame", laid_loop_example_pub_g03069_pub_ws_errInvalidControlFrame), ("loop.example/pub-g03069/impl.errCode", laid_loop_example_pub_g03069_impl_errCode)] }
def FnWriteSaid : Prop := fnWriteRow.holds Tryd.pinned (OpenSpec.ofChange fnWriteSpec)

/-- ITS FALSE NEIGHBOUR: 'it returns false'. Refute it at one input. -/
def fnWriteWrong : ChangeSpec := { name := "fnWrite", vars := ["loop.example/pub-g03069/pub/ws.errBadWriteOpCode", "loop.example/pub-g03069/pub/ws.errInvalidControlFrame", "loop.example/pub-g03069/pub/ws.ErrCloseSent", "loop.example/pub-g03069/impl.errCode", "loop.example/pub-g03069/pub/ws.errWriteClosed"], fn := fun _ => fun
  | [d1, d2, d3, d4, g1, g2, g3, g4, g5] => { results := [.lit (.bool false)], args := [d1, d2, d3, d4], vars := [g1, g2, g3, g4, g5] }
  | _ => none }
def FnWriteWrongFalsely : Prop := fnWriteRow.holds Tryd.pinned (OpenSpec.ofChange fnWriteWrong)

/- THE SECOND FORM. 'bulk': how many values and letters a reading holds, each counted each time it is reached (what is shared counts as often as it is met; a slice's spare places count too). A statement '..UptoSaid' is the law's where the arguments, and the package variables that the reading takes, are together of bulk at most 1048576: NARROWER than '..Said'. Prove '..Said' where nothing that the law and all that it calls make is longer than what came in: it says more and counts as full. Else prove '..UptoSaid'. A law counts once. -/
mutual
def uptoBulk {H : Type} : DataW H → Nat
  | .lit (.string bytes) => bytes.length + 1
  | .lit _ => 1
  | .nil => 1
  | .ptr d => uptoBulk d + 1
  | .slice elems spare => uptoBulkAll elems + uptoBulkAll spare + 1
  | .agg parts => uptoBulkAll parts + 1
  | .iface _ d => uptoBulk d + 1
  | .map entries => uptoBulkEntries entries + 1
  | .held _ => 1
def uptoBulkAll {H : Type} : List (DataW H) → Nat
  | [] => 0
  | d :: r => uptoBulk d + uptoBulkAll r
def uptoBulkEntries {H : Type} : List (Lit × DataW H) → Nat
  | [] => 0
  | x :: r => uptoBulkEntry x + uptoBulkEntries r
def uptoBulkEntry {H : Type} : Lit × DataW H → Nat
  | (.string bytes, d) => bytes.length + uptoBulk d + 1
  | (_, d) => uptoBulk d + 1
 end
def uptoSmall : (H : Type) → List (DataW H) → Bool := fun _ ds => decide (uptoBulkAll ds ≤ 1048576)
def OpenSpec.upto (s : _root_.Go.ChangeSpec) : _root_.Go.OpenSpec := { _root_.Go.OpenSpec.ofChange s with cond := some uptoSmall }

/-- 'laws.FnWrite', WHERE WHAT IT READS IS OF BULK AT MOST 1048576: true; the input reads as it did. -/
def fnWriteUptoRow : OpenClaim := { program := "ytjjahfhnebicjaadoor", sum := "1204b5ec05e1a823e7b541c1b3a8a2d924cc0722a662143e643eff0cc832bfe2", func := "loop.example/pub-g03069/laws.FnWrite", spec := "fnWrite", unfollowed := true, recurses := true, named := ["encoding/binary.BigEndian", "loop.example/pub-g03069/pub/ws.errBadWriteOpCode", "loop.example/pub-g03069/pub/ws.errInvalidControlFrame", "loop.example/pub-g03069/pub/ws.ErrCloseSent", "loop.example/pub-g03069/impl.errCode", "loop.example/pub-g03069/pub/ws.errWriteClosed"], ifaces := true, apart := false, laid := [("loop.example/pub-g03069/pub/ws.ErrCloseSent", laid_loop_example_pub_g03069_pub_ws_ErrCloseSent), ("loop.example/pub-g03069/pub/ws.errBadWriteOpCode", laid_loop_example_pub_g03069_pub_ws_errBadWriteOpCode), ("loop.example/pub-g03069/pub/ws.errWriteClosed", laid_loop_example_pub_g03069_pub_ws_errWriteClosed), ("loop.example/pub-g03069/pub/ws.errInvalidControlFrame", laid_loop_example_pub_g03069_pub_ws_errInvalidControlFrame), ("loop.example/pub-g03069/impl.errCode", laid_loop_example_pub_g03069_impl_errCode)], narrowed := true }
def FnWriteUptoSaid : Prop := fnWriteUptoRow.holds Tryd.pinned (OpenSpec.upto fnWriteSpec)

end Rows
end Go.Proofs.YtjjahfhnebicjaaDoor
