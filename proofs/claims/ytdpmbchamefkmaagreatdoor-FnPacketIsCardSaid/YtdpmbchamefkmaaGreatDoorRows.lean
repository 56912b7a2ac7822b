/-
  NARROWER THAN 'FOR EVERY INPUT', by the rows' own cells (each row's printed sentence says how): FnPacketTurned: ifaces, laid · FnPacketTextIs: ifaces, laid · FnPacketIs: ifaces, laid.
  DERIVED. THE GIVEN ROWS OF THIS SEAT. 3 by the template 'for every input the law returns true; each argument reads behind the call as it read before'; 0 by the template 'total and deterministic' (their statements: YtdpmbchamefkmaaGreatDoorTotals.lean).
  GIVEN WITH THE SEED: the statements are not yours to turn. If you find one false, say at which input.
  Laid BY PROGRAM, IN A SANDBOX (cutbox-rows.mjs): the forced cells as the released guide's own fill.sh prints them over the translation bc9f66f95b229587… (all of the seat's roots in one cut). By AI agents, Wed Nov 11 2026. No macro, syntax, notation, axiom, sorry.
-/
import Derived.Test.YtdpmbchamefkmaaGreatDoorChecked
import GoSem.Claim
import GoSem.ClaimJoined
import GoSem.ClaimMapViews
import Derived.JoinedTies
import Derived.KernelRfl
namespace Go.Proofs.YtdpmbchamefkmaaGreatDoor
/- THE CELL 'sum', in the pinned program and in every row, IS THE sha256 OF THE DUMP (.gsa) THAT YtdpmbchamefkmaaGreatDoorProg.lean LOADS. Nothing in Lean hashes anything: it is a label: what it is worth is what the hold of that sum in a sandbox is worth. -/
noncomputable def Tryz.pinned : Pinned := { name := "ytdpmbchamefkmaagreatdoor", sum := "bc9f66f95b229587b4568f8289e7412f024b03be92678c1d2a2a77cd1ae8647c", checked := Tryz.checked }
namespace Rows
def none {H : Type} : Left H := { results := [], args := [] }

/- WHAT THE LISTED PACKAGE-LEVEL VARIABLES READ AS WHEN THE CALL BEGINS. Each datum BY PROGRAM (the guide's laid-datum.mjs) off the statement by which the dump's own 'gosem.cut.vars' lays the variable. In a bare row this is a premise. The card (YtdpmbchamefkmaaGreatDoorCards.lean) ties it to the program's text. -/
def laid_loop_example_pub_g03037_pub_sctp_ErrPacketRawTooSmall {H : Type} : DataW H := .iface "*errors.errorString" (.ptr (.agg [.lit (.string [114, 97, 119, 32, 105, 115, 32, 115, 109, 97, 108, 108, 101, 114, 32, 116, 104, 97, 110, 32, 116, 104, 101, 32, 109, 105, 110, 105, 109, 117, 109, 32, 108, 101, 110, 103, 116, 104, 32, 102, 111, 114, 32, 97, 32, 83, 67, 84, 80, 32, 112, 97, 99, 107, 101, 116])]))
def laid_loop_example_pub_g03037_pub_sctp_ErrParseSCTPChunkNotEnoughData {H : Type} : DataW H := .iface "*errors.errorString" (.ptr (.agg [.lit (.string [117, 110, 97, 98, 108, 101, 32, 116, 111, 32, 112, 97, 114, 115, 101, 32, 83, 67, 84, 80, 32, 99, 104, 117, 110, 107, 44, 32, 110, 111, 116, 32, 101, 110, 111, 117, 103, 104, 32, 100, 97, 116, 97, 32, 102, 111, 114, 32, 99, 111, 109, 112, 108, 101, 116, 101, 32, 104, 101, 97, 100, 101, 114])]))
def laid_loop_example_pub_g03037_pub_sctp_ErrUnmarshalUnknownChunkType {H : Type} : DataW H := .iface "*errors.errorString" (.ptr (.agg [.lit (.string [102, 97, 105, 108, 101, 100, 32, 116, 111, 32, 117, 110, 109, 97, 114, 115, 104, 97, 108, 44, 32, 99, 111, 110, 116, 97, 105, 110, 115, 32, 117, 110, 107, 110, 111, 119, 110, 32, 99, 104, 117, 110, 107, 32, 116, 121, 112, 101])]))
def laid_loop_example_pub_g03037_pub_sctp_ErrChecksumMismatch {H : Type} : DataW H := .iface "*errors.errorString" (.ptr (.agg [.lit (.string [99, 104, 101, 99, 107, 115, 117, 109, 32, 109, 105, 115, 109, 97, 116, 99, 104, 32, 116, 104, 101, 105, 114, 115])]))
def laid_loop_example_pub_g03037_pub_sctp_ErrChunkHeaderTooSmall {H : Type} : DataW H := .iface "*errors.errorString" (.ptr (.agg [.lit (.string [114, 97, 119, 32, 105, 115, 32, 116, 111, 111, 32, 115, 109, 97, 108, 108, 32, 102, 111, 114, 32, 97, 32, 83, 67, 84, 80, 32, 99, 104, 117, 110, 107])]))

/-- 'laws.FnPacketTurned': WHATEVER THE INPUT: true; the input reads as it did. -/
def fnPacketTurnedSpec : ChangeSpec := { name := "fnPacketTurned", vars := ["loop.example/pub-g03037/pub/sctp.ErrPacketRawTooSmall", "loop.example/pub-g03037/pub/sctp.ErrChecksumMismatch", "loop.example/pub-g03037/pub/sctp.ErrParseSCTPChunkNotEnoughData", "loop.example/pub-g03037/pub/sctp.ErrUnmarshalUnknownChunkType"], fn := fun _ => fun
  | [d1, d2, d3, d4, d5, g1, g2, g3, g4] => { results := [.lit (.bool true)], args := [d1, d2, d3, d4, d5], vars := [g1, g2, g3, g4] }
  | _ => none }
def fnPacketTurnedRow : OpenClaim := { program := "ytdpmbchamefkmaagreatdoor", sum := "bc9f66f95b229587b4568f8289e7412f024b03be92678c1d2a2a77cd1ae8647c", func := "loop.example/pub-g03037/laws.FnPacketTurned", spec := "fnPacketTurned", unfollowed := true, recurses := true, named := ["loop.example/pub-g03037/pub/sctp.ErrPacketRawTooSmall", "encoding/binary.LittleEndian", "loop.example/pub-g03037/pub/sctp.ErrChecksumMismatch", "encoding/binary.BigEndian", "loop.example/pub-g03037/pub/sctp.ErrParseSCTPChunkNotEnoughData", "loop.example/pub-g03037/pub/sctp.ErrUnmarshalUnknownChunkType"], ifaces := true, plainKeys := false, apart := false, laid := [("loop.example/pub-g03037/pub/sctp.ErrPacketRawTooSmall", laid_loop_example_pub_g03037_pub_sctp_ErrPacketRawTooSmall), ("loop.example/pub-g03037/pub/sctp.ErrParseSCTPChunkNotEnoughData", laid_loop_example_pub_g03037_pub_sctp_ErrParseSCTPChunkNotEnoughData), ("loop.example/pub-g03037/pub/sctp.ErrUnmarshalUnknownChunkType", laid_loop_example_pub_g03037_pub_sctp_ErrUnmarshalUnknownChunkType), ("loop.example/pub-g03037/pub/sctp.ErrChecksumMismatch", laid_loop_example_pub_g03037_pub_sctp_ErrChecksumMismatch)] }
def FnPacketTurnedSaid : Prop := fnPacketTurnedRow.holds Tryz.pinned (OpenSpec.ofChange fnPacketTurnedSpec)

/-- ITS FALSE NEIGHBOUR: 'it returns false'. Refute it at one input. -/
def fnPacketTurnedWrong : ChangeSpec := { name := "fnPacketTurned", vars := ["loop.example/pub-g03037/pub/sctp.ErrPacketRawTooSmall", "loop.example/pub-g03037/pub/sctp.ErrChecksumMismatch", "loop.example/pub-g03037/pub/sctp.ErrParseSCTPChunkNotEnoughData", "loop.example/pub-g03037/pub/sctp.ErrUnmarshalUnknownChunkType"], fn := fun _ => fun
  | [d1, d2, d3, d4, d5, g1, g2, g3, g4] => { results := [.lit (.bool false)], args := [d1, d2, d3, d4, d5], vars := [g1, g2, g3, g4] }
  | _ => none }
def FnPacketTurnedWrongFalsely : Prop := fnPacketTurnedRow.holds Tryz.pinned (OpenSpec.ofChange fnPacketTurnedWrong)

/-- 'laws.FnPacketTextIs': WHATEVER THE INPUT: true; the input reads as it did. -/
def fnPacketTextIsSpec : ChangeSpec := { name := "fnPacketTextIs", vars := ["loop.example/pub-g03037/pub/sctp.ErrChunkHeaderTooSmall", "loop.example/pub-g03037/pub/sctp.ErrUnmarshalUnknownChunkType"], fn := fun _ => fun
  | [d1, d2, d3, d4, d5, d6, g1, g2] => { results := [.lit (.bool true)], args := [d1, d2, d3, d4, d5, d6], vars := [g1, g2] }
  | _ => none }
def fnPacketTextIsRow : OpenClaim := { program := "ytdpmbchamefkmaagreatdoor", sum := "bc9f66f95b229587b4568f8289e7412f024b03be92678c1d2a2a77cd1ae8647c", func := "loop.example/pub-g03037/laws.FnPacketTextIs", spec := "fnPacketTextIs", unfollowed := true, recurses := true, named := ["loop.example/pub-g03037/pub/sctp.ErrChunkHeaderTooSmall", "loop.example/pub-g03037/pub/sctp.ErrUnmarshalUnknownChunkType", "encoding/binary.BigEndian", "encoding/binary.LittleEndian"], ifaces := true, plainKeys := false, apart := false, laid := [("loop.example/pub-g03037/pub/sctp.ErrChunkHeaderTooSmall", laid_loop_example_pub_g03037_pub_sctp_ErrChunkHeaderTooSmall), ("loop.example/pub-g03037/pub/sctp.ErrUnmarshalUnknownChunkType", laid_loop_example_pub_g03037_pub_sctp_ErrUnmarshalUnknownChunkType)] }
def FnPacketTextIsSaid : Prop := fnPacketTextIsRow.holds Tryz.pinned (OpenSpec.ofChange fnPacketTextIsSpec)

/-- ITS FALSE NEIGHBOUR: 'it returns false'. Refute it at one input. -/
def fnPacketTextIsWrong : ChangeSpec := { name := "fnPacketTextIs", vars := ["loop.example/pub-g03037/pub/sctp.ErrChunkHeaderTooSmall", "loop.example/pub-g03037/pub/sctp.ErrUnmarshalUnknownChunkType"], fn := fun _ => fun
  | [d1, d2, d3, d4, d5, d6, g1, g2] => { results := [.lit (.bool false)], args := [d1, d2, d3, d4, d5, d6], vars := [g1, g2] }
  | _ => none }
def FnPacketTextIsWrongFalsely : Prop := fnPacketTextIsRow.holds Tryz.pinned (OpenSpec.ofChange fnPacketTextIsWrong)

/-- 'laws.FnPacketIs': WHATEVER THE INPUT: true; the input reads as it did. -/
def fnPacketIsSpec : ChangeSpec := { name := "fnPacketIs", vars := ["loop.example/pub-g03037/pub/sctp.ErrPacketRawTooSmall", "loop.example/pub-g03037/pub/sctp.ErrChecksumMismatch", "loop.example/pub-g03037/pub/sctp.ErrParseSCTPChunkNotEnoughData", "loop.example/pub-g03037/pub/sctp.ErrUnmarshalUnknownChunkType"], fn := fun _ => fun
  | [d1, d2, d3, d4, d5, d6, d7, g1, g2, g3, g4] => { results := [.lit (.bool true)], args := [d1, d2, d3, d4, d5, d6, d7], vars := [g1, g2, g3, g4] }
  | _ => none }
def fnPacketIsRow : OpenClaim := { program := "ytdpmbchamefkmaagreatdoor", sum := "bc9f66f95b229587b4568f8289e7412f024b03be92678c1d2a2a77cd1ae8647c", func := "loop.example/pub-g03037/laws.FnPacketIs", spec := "fnPacketIs", unfollowed := true, recurses := true, named := ["loop.example/pub-g03037/pub/sctp.ErrPacketRawTooSmall", "encoding/binary.LittleEndian", "loop.example/pub-g03037/pub/sctp.ErrChecksumMismatch", "encoding/binary.BigEndian", "loop.example/pub-g03037/pub/sctp.ErrParseSCTPChunkNotEnoughData", "loop.example/pub-g03037/pub/sctp.ErrUnmarshalUnknownChunkType"], ifaces := true, plainKeys := false, apart := false, laid := [("loop.example/pub-g03037/pub/sctp.ErrPacketRawTooSmall", laid_loop_example_pub_g03037_pub_sctp_ErrPacketRawTooSmall), ("loop.example/pub-g03037/pub/sctp.ErrParseSCTPChunkNotEnoughData", laid_loop_example_pub_g03037_pub_sctp_ErrParseSCTPChunkNotEnoughData), ("loop.example/pub-g03037/pub/sctp.ErrUnmarshalUnknownChunkType", laid_loop_example_pub_g03037_pub_sctp_ErrUnmarshalUnknownChunkType), ("loop.example/pub-g03037/pub/sctp.ErrChecksumMismatch", laid_loop_example_pub_g03037_pub_sctp_ErrChecksumMismatch)] }
def FnPacketIsSaid : Prop := fnPacketIsRow.holds Tryz.pinned (OpenSpec.ofChange fnPacketIsSpec)

/-- ITS FALSE NEIGHBOUR: 'it returns false'. Refute it at one input. -/
def fnPacketIsWrong : ChangeSpec := { name := "fnPacketIs", vars := ["loop.example/pub-g03037/pub/sctp.ErrPacketRawTooSmall", "loop.example/pub-g03037/pub/sctp.ErrChecksumMismatch", "loop.example/pub-g03037/pub/sctp.ErrParseSCTPChunkNotEnoughData", "loop.example/pub-g03037/pub/sctp.ErrUnmarshalUnknownChunkType"], fn := fun _ => fun
  | [d1, d2, d3, d4, d5, d6, d7, g1, g2, g3, g4] => { results := [.lit (.bool false)], args := [d1, d2, d3, d4, d5, d6, d7], vars := [g1, g2, g3, g4] }
  | _ => none }
def FnPacketIsWrongFalsely : Prop := fnPacketIsRow.holds Tryz.pinned (OpenSpec.ofChange fnPacketIsWrong)

/- THE SECOND FORM. 'bulk': how many values and letters a reading holds, each counted each time it is reached (what is shared counts as often as it is met; a slice's spare places count too). A statement '..UptoSaid' is the law's where the arguments, and the package variables that the reading takes, are together of bulk at most 1048576: NARROWER than '..Said'. Prove '..Said' where nothing that the law and all that it calls make is longer than what came in: it says more and counts as full. Else prove '..UptoSaid'. A law counts once. -/
mutual
def uptoBulk {H : Type} : DataW H → Nat
  | .lit (.string bytes) => bytes.length + 1
  | .lit _ => 1
  | .nil => 1
  | .ptr d => uptoBulk d + 1
  | .slice elems spare => uptoBulkAll elems + uptoBulkAll spare + 1
  | .agg parts => uptoBulkAll parts + 1
  | .iface _ d => uptoBulk d + 1
  | .map entries => uptoBulkEntries entries + 1
  | .held _ => 1
def uptoBulkAll {H : Type} : List (DataW H) → Nat
  | [] => 0
  | d :: r => uptoBulk d + uptoBulkAll r
def uptoBulkEntries {H : Type} : List (Lit × DataW H) → Nat
  | [] => 0
  | x :: r => uptoBulkEntry x + uptoBulkEntries r
def uptoBulkEntry {H : Type} : Lit × DataW H → Nat
  | (.string bytes, d) => bytes.length + uptoBulk d + 1
  | (_, d) => uptoBulk d + 1
 end
def uptoSmall : (H : Type) → List (DataW H) → Bool := fun _ ds => decide (uptoBulkAll ds ≤ 1048576)
def OpenSpec.upto (s : _root_.Go.ChangeSpec) : _root_.Go.OpenSpec := { _root_.Go.OpenSpec.ofChange s with cond := some uptoSmall }

/-- 'laws.FnPacketTurned', WHERE WHAT IT READS IS OF BULK AT MOST 1048576: true; the input reads as it did. -/
def fnPacketTurnedUptoRow : OpenClaim := { program := "ytdpmbchamefkmaagreatdoor", sum := "bc9f66f95b229587b4568f8289e7412f024b03be92678c1d2a2a77cd1ae8647c", func := "loop.example/pub-g03037/laws.FnPacketTurned", spec := "fnPacketTurned", unfollowed := true, recurses := true, named := ["loop.example/pub-g03037/pub/sctp.ErrPacketRawTooSmall", "encoding/binary.LittleEndian", "loop.example/pub-g03037/pub/sctp.ErrChecksumMismatch", "encoding/binary.BigEndian", "loop.example/pub-g03037/pub/sctp.ErrParseSCTPChunkNotEnoughData", "loop.example/pub-g03037/pub/sctp.ErrUnmarshalUnknownChunkType"], ifaces := true, plainKeys := false, apart := false, laid := [("loop.example/pub-g03037/pub/sctp.ErrPacketRawTooSmall", laid_loop_example_pub_g03037_pub_sctp_ErrPacketRawTooSmall), ("loop.example/pub-g03037/pub/sctp.ErrParseSCTPChunkNotEnoughData", laid_loop_example_pub_g03037_pub_sctp_ErrParseSCTPChunkNotEnoughData), ("loop.example/pub-g03037/pub/sctp.ErrUnmarshalUnknownChunkType", laid_loop_example_pub_g03037_pub_sctp_ErrUnmarshalUnknownChunkType), ("loop.example/pub-g03037/pub/sctp.ErrChecksumMismatch", laid_loop_example_pub_g03037_pub_sctp_ErrChecksumMismatch)], narrowed := true }
def FnPacketTurnedUptoSaid : Prop := fnPacketTurnedUptoRow.holds Tryz.pinned (OpenSpec.upto fnPacketTurnedSpec)

/-- 'laws.FnPacketTextIs', WHERE WHAT IT READS IS OF BULK AT MOST 1048576: true; the input reads as it did. -/
def fnPacketTextIsUptoRow : OpenClaim := { program := "ytdpmbchamefkmaagreatdoor", sum := "bc9f66f95b229587b4568f8289e7412f024b03be92678c1d2a2a77cd1ae8647c", func := "loop.example/pub-g03037/laws.FnPacketTextIs", spec := "fnPacketTextIs", unfollowed := true, recurses := true, named := ["loop.example/pub-g03037/pub/sctp.ErrChunkHeaderTooSmall", "loop.example/pub-g03037/pub/sctp.ErrUnmarshalUnknownChunkType", "encoding/binary.BigEndian", "encoding/binary.LittleEndian"], ifaces := true, plainKeys := false, apart := false, laid := [("loop.example/pub-g03037/pub/sctp.ErrChunkHeaderTooSmall", laid_loop_example_pub_g03037_pub_sctp_ErrChunkHeaderTooSmall), ("loop.example/pub-g03037/pub/sctp.ErrUnmarshalUnknownChunkType", laid_loop_example_pub_g03037_pub_sctp_ErrUnmarshalUnknownChunkType)], narrowed := true }
def FnPacketTextIsUptoSaid : Prop := fnPacketTextIsUptoRow.holds Tryz.pinned (OpenSpec.upto fnPacketTextIsSpec)

/-- 'laws.FnPacketIs', WHERE WHAT IT READS IS OF BULK AT MOST 1048576: true; the input reads as it did. -/
def fnPacketIsUptoRow : OpenClaim := { program := "ytdpmbchamefkmaagreatdoor", sum := "bc9f66f95b229587b4568f8289e7412f024b03be92678c1d2a2a77cd1ae8647c", func := "loop.example/pub-g03037/laws.FnPacketIs", spec := "fnPacketIs", unfollowed := true, recurses := true, named := ["loop.example/pub-g03037/pub/sctp.ErrPacketRawTooSmall", "encoding/binary.LittleEndian", "loop.example/pub-g03037/pub/sctp.ErrChecksumMismatch", "encoding/binary.BigEndian", "loop.example/pub-g03037/pub/sctp.ErrParseSCTPChunkNotEnoughData", "loop.example/pub-g03037/pub/sctp.ErrUnmarshalUnknownChunkType"], ifaces := true, plainKeys := false, apart := false, laid := [("loop.example/pub-g03037/pub/sctp.ErrPacketRawTooSmall", laid_loop_example_pub_g03037_pub_sctp_ErrPacketRawTooSmall), ("loop.example/pub-g03037/pub/sctp.ErrParseSCTPChunkNotEnoughData", laid_loop_example_pub_g03037_pub_sctp_ErrParseSCTPChunkNotEnoughData), ("loop.example/pub-g03037/pub/sctp.ErrUnmarshalUnknownChunkType", laid_loop_example_pub_g03037_pub_sctp_ErrUnmarshalUnknownChunkType), ("loop.example/pub-g03037/pub/sctp.ErrChecksumMismatch", laid_loop_example_pub_g03037_pub_sctp_ErrChecksumMismatch)], narrowed := true }
def FnPacketIsUptoSaid : Prop := fnPacketIsUptoRow.holds Tryz.pinned (OpenSpec.upto fnPacketIsSpec)

end Rows
end Go.Proofs.YtdpmbchamefkmaaGreatDoor
