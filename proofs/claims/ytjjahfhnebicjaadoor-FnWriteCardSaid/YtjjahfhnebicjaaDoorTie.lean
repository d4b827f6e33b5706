/-
  DERIVED. GIVEN WITH THE SEED: THE PROGRAM's TIES (one call each: nine closed facts by the kernel) AND EACH ROW's TIE, after the 31st guide's Derived/Test/Toyas{Tie, Card}.lean. No idea stands in it: it is a product of the set-up. Laid BY PROGRAM, IN A SANDBOX (cutbox-door.mjs). By AI agents, Wed Nov 11 2026. No macro, syntax, notation, axiom, sorry.
-/
import Derived.Test.YtjjahfhnebicjaaDoorRows
import Derived.LaidByTextLater
import Derived.SevenTiedAt
import Derived.LaidSub
import Derived.LaidOnce
namespace Go.Proofs.YtjjahfhnebicjaaDoor
open Go
set_option maxRecDepth 100000
theorem seatTie1 : Tryd.prog.laidByTextLater [("loop.example/pub-g03069/pub/ws.ErrCloseSent", Rows.laid_loop_example_pub_g03069_pub_ws_ErrCloseSent), ("loop.example/pub-g03069/pub/ws.errBadWriteOpCode", Rows.laid_loop_example_pub_g03069_pub_ws_errBadWriteOpCode), ("loop.example/pub-g03069/pub/ws.errWriteClosed", Rows.laid_loop_example_pub_g03069_pub_ws_errWriteClosed), ("loop.example/pub-g03069/pub/ws.errInvalidControlFrame", Rows.laid_loop_example_pub_g03069_pub_ws_errInvalidControlFrame), ("loop.example/pub-g03069/impl.errCode", Rows.laid_loop_example_pub_g03069_impl_errCode)] [.sentinel, .sentinel, .sentinel, .sentinel, .sentinel] true :=
  Program.laidByTextLater_by_one 123 8 2 (by kernel_rfl) (by kernel_rfl) (by kernel_rfl) (by kernel_rfl) (by kernel_rfl) (by kernel_rfl) (fun _ _ => by kernel_rfl)
theorem noOwnUnsafe : Tryd.pinned.checked.prog.headLifts.contains "ownunsafe" = false := by kernel_rfl
theorem tie : Tryd.prog.laidByTextLater [("loop.example/pub-g03069/pub/ws.ErrCloseSent", Rows.laid_loop_example_pub_g03069_pub_ws_ErrCloseSent), ("loop.example/pub-g03069/pub/ws.errBadWriteOpCode", Rows.laid_loop_example_pub_g03069_pub_ws_errBadWriteOpCode), ("loop.example/pub-g03069/pub/ws.errWriteClosed", Rows.laid_loop_example_pub_g03069_pub_ws_errWriteClosed), ("loop.example/pub-g03069/pub/ws.errInvalidControlFrame", Rows.laid_loop_example_pub_g03069_pub_ws_errInvalidControlFrame), ("loop.example/pub-g03069/impl.errCode", Rows.laid_loop_example_pub_g03069_impl_errCode)] [.sentinel, .sentinel, .sentinel, .sentinel, .sentinel] true :=
  Program.laidByTextLater.sub seatTie1 ["loop.example/pub-g03069/pub/ws.ErrCloseSent", "loop.example/pub-g03069/pub/ws.errBadWriteOpCode", "loop.example/pub-g03069/pub/ws.errWriteClosed", "loop.example/pub-g03069/pub/ws.errInvalidControlFrame", "loop.example/pub-g03069/impl.errCode"] (by kernel_rfl) (by kernel_rfl)
theorem fnWrite_row_tie : Rows.fnWriteRow.laidByTextAt .later Tryd.pinned [.sentinel, .sentinel, .sentinel, .sentinel, .sentinel] true :=
  OpenClaim.laidByTextAt_later rfl rfl tie noOwnUnsafe
theorem fnWriteUpto_row_tie : Rows.fnWriteUptoRow.laidByTextAt .later Tryd.pinned [.sentinel, .sentinel, .sentinel, .sentinel, .sentinel] true :=
  OpenClaim.laidByTextAt_later rfl rfl tie noOwnUnsafe
end Go.Proofs.YtjjahfhnebicjaaDoor
