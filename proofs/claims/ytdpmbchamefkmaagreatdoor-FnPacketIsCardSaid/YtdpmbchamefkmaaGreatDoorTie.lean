/-
  DERIVED. GIVEN WITH THE SEED: THE PROGRAM's TIES (one call each: nine closed facts by the kernel) AND EACH ROW's TIE, after the 31st guide's Derived/Test/Toyas{Tie, Card}.lean. No idea stands in it: it is a product of the set-up. Laid BY PROGRAM, IN A SANDBOX (cutbox-door.mjs). By AI agents, Wed Nov 11 2026. No macro, syntax, notation, axiom, sorry.
-/
import Derived.Test.YtdpmbchamefkmaaGreatDoorRows
import Derived.LaidByTextLater
import Derived.SevenTiedAt
import Derived.LaidSub
import Derived.LaidOnce
namespace Go.Proofs.YtdpmbchamefkmaaGreatDoor
open Go
set_option maxRecDepth 100000
theorem seatTie1 : Tryz.prog.laidByTextLater [("loop.example/pub-g03037/pub/sctp.ErrChunkHeaderTooSmall", Rows.laid_loop_example_pub_g03037_pub_sctp_ErrChunkHeaderTooSmall), ("loop.example/pub-g03037/pub/sctp.ErrPacketRawTooSmall", Rows.laid_loop_example_pub_g03037_pub_sctp_ErrPacketRawTooSmall), ("loop.example/pub-g03037/pub/sctp.ErrParseSCTPChunkNotEnoughData", Rows.laid_loop_example_pub_g03037_pub_sctp_ErrParseSCTPChunkNotEnoughData), ("loop.example/pub-g03037/pub/sctp.ErrUnmarshalUnknownChunkType", Rows.laid_loop_example_pub_g03037_pub_sctp_ErrUnmarshalUnknownChunkType), ("loop.example/pub-g03037/pub/sctp.ErrChecksumMismatch", Rows.laid_loop_example_pub_g03037_pub_sctp_ErrChecksumMismatch)] [.sentinel, .sentinel, .sentinel, .sentinel, .sentinel] true :=
  Program.laidByTextLater_by_one 1168 8 2 (by kernel_rfl) (by kernel_rfl) (by kernel_rfl) (by kernel_rfl) (by kernel_rfl) (by kernel_rfl) (fun _ _ => by kernel_rfl)
theorem noOwnUnsafe : Tryz.pinned.checked.prog.headLifts.contains "ownunsafe" = false := by kernel_rfl
theorem tie : Tryz.prog.laidByTextLater [("loop.example/pub-g03037/pub/sctp.ErrPacketRawTooSmall", Rows.laid_loop_example_pub_g03037_pub_sctp_ErrPacketRawTooSmall), ("loop.example/pub-g03037/pub/sctp.ErrParseSCTPChunkNotEnoughData", Rows.laid_loop_example_pub_g03037_pub_sctp_ErrParseSCTPChunkNotEnoughData), ("loop.example/pub-g03037/pub/sctp.ErrUnmarshalUnknownChunkType", Rows.laid_loop_example_pub_g03037_pub_sctp_ErrUnmarshalUnknownChunkType), ("loop.example/pub-g03037/pub/sctp.ErrChecksumMismatch", Rows.laid_loop_example_pub_g03037_pub_sctp_ErrChecksumMismatch)] [.sentinel, .sentinel, .sentinel, .sentinel] true :=
  Program.laidByTextLater.sub seatTie1 ["loop.example/pub-g03037/pub/sctp.ErrPacketRawTooSmall", "loop.example/pub-g03037/pub/sctp.ErrParseSCTPChunkNotEnoughData", "loop.example/pub-g03037/pub/sctp.ErrUnmarshalUnknownChunkType", "loop.example/pub-g03037/pub/sctp.ErrChecksumMismatch"] (by kernel_rfl) (by kernel_rfl)
theorem fnPacketTurned_row_tie : Rows.fnPacketTurnedRow.laidByTextAt .later Tryz.pinned [.sentinel, .sentinel, .sentinel, .sentinel] true :=
  OpenClaim.laidByTextAt_later rfl rfl tie noOwnUnsafe
theorem fnPacketIs_row_tie : Rows.fnPacketIsRow.laidByTextAt .later Tryz.pinned [.sentinel, .sentinel, .sentinel, .sentinel] true :=
  OpenClaim.laidByTextAt_later rfl rfl tie noOwnUnsafe
theorem tie2 : Tryz.prog.laidByTextLater [("loop.example/pub-g03037/pub/sctp.ErrChunkHeaderTooSmall", Rows.laid_loop_example_pub_g03037_pub_sctp_ErrChunkHeaderTooSmall), ("loop.example/pub-g03037/pub/sctp.ErrUnmarshalUnknownChunkType", Rows.laid_loop_example_pub_g03037_pub_sctp_ErrUnmarshalUnknownChunkType)] [.sentinel, .sentinel] true :=
  Program.laidByTextLater.sub seatTie1 ["loop.example/pub-g03037/pub/sctp.ErrChunkHeaderTooSmall", "loop.example/pub-g03037/pub/sctp.ErrUnmarshalUnknownChunkType"] (by kernel_rfl) (by kernel_rfl)
theorem fnPacketTextIs_row_tie : Rows.fnPacketTextIsRow.laidByTextAt .later Tryz.pinned [.sentinel, .sentinel] true :=
  OpenClaim.laidByTextAt_later rfl rfl tie2 noOwnUnsafe
theorem fnPacketTurnedUpto_row_tie : Rows.fnPacketTurnedUptoRow.laidByTextAt .later Tryz.pinned [.sentinel, .sentinel, .sentinel, .sentinel] true :=
  OpenClaim.laidByTextAt_later rfl rfl tie noOwnUnsafe
theorem fnPacketTextIsUpto_row_tie : Rows.fnPacketTextIsUptoRow.laidByTextAt .later Tryz.pinned [.sentinel, .sentinel] true :=
  OpenClaim.laidByTextAt_later rfl rfl tie2 noOwnUnsafe
theorem fnPacketIsUpto_row_tie : Rows.fnPacketIsUptoRow.laidByTextAt .later Tryz.pinned [.sentinel, .sentinel, .sentinel, .sentinel] true :=
  OpenClaim.laidByTextAt_later rfl rfl tie noOwnUnsafe
end Go.Proofs.YtdpmbchamefkmaaGreatDoor
