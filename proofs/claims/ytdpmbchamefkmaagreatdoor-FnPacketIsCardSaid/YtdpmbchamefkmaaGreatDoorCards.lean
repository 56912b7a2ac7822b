/-
  DERIVED. GIVEN WITH THE SEED: THE CARDS: each row of YtdpmbchamefkmaaGreatDoorRows.lean that lists a variable, with what it lists TIED to the program's text (the seventh form; the later family's looks); each row that meets fmt, with fmt's text TOLD by the authors' own Lean function (tested against real Go, not proved from fmt's source: count such statements apart). THE CARD IS WHAT COUNTS. Prove the row's statement (the work); the ties are given (YtdpmbchamefkmaaGreatDoorTie.lean); close each card by the builder's one call (the guide's Derived/Test/ToyasCard.lean, 'card_holds'). Laid BY PROGRAM, IN A SANDBOX (cutbox-door.mjs). By AI agents, Wed Nov 11 2026. No macro, syntax, notation, axiom, sorry.
-/
import Derived.Test.YtdpmbchamefkmaaGreatDoorRows
import GoSem.ClaimSeven
namespace Go.Proofs.YtdpmbchamefkmaaGreatDoor
namespace Rows

/-- THE TIED CARD OF 'laws.FnPacketTurned'. -/
def fnPacketTurnedCard : Claim7 := { stood := { row := fnPacketTurnedRow, standIns := [], harness := (true, "820014466cd5023e22da4fbbd924b059f1755a340416331f1c16401cb441dd5c"), looks := false }, kinds := [], alts := [], laidByText := true, laidKinds := [.sentinel, .sentinel, .sentinel, .sentinel], laidTests := true, laidLooks := .later }
def FnPacketTurnedCardSaid : Prop := Claim7.holds Tryz.pinned (.plain (OpenSpec.ofChange fnPacketTurnedSpec)) fnPacketTurnedCard

/-- THE TIED CARD OF 'laws.FnPacketTextIs'. -/
def fnPacketTextIsCard : Claim7 := { stood := { row := fnPacketTextIsRow, standIns := [], harness := (true, "820014466cd5023e22da4fbbd924b059f1755a340416331f1c16401cb441dd5c"), looks := false }, kinds := [], alts := [], laidByText := true, laidKinds := [.sentinel, .sentinel], laidTests := true, laidLooks := .later }
def FnPacketTextIsCardSaid : Prop := Claim7.holds Tryz.pinned (.plain (OpenSpec.ofChange fnPacketTextIsSpec)) fnPacketTextIsCard

/-- THE TIED CARD OF 'laws.FnPacketIs'. -/
def fnPacketIsCard : Claim7 := { stood := { row := fnPacketIsRow, standIns := [], harness := (true, "820014466cd5023e22da4fbbd924b059f1755a340416331f1c16401cb441dd5c"), looks := false }, kinds := [], alts := [], laidByText := true, laidKinds := [.sentinel, .sentinel, .sentinel, .sentinel], laidTests := true, laidLooks := .later }
def FnPacketIsCardSaid : Prop := Claim7.holds Tryz.pinned (.plain (OpenSpec.ofChange fnPacketIsSpec)) fnPacketIsCard

/-- THE SECOND FORM's CARD OF 'laws.FnPacketTurned'. -/
def fnPacketTurnedUptoCard : Claim7 := { stood := { row := fnPacketTurnedUptoRow, standIns := [], harness := (true, "820014466cd5023e22da4fbbd924b059f1755a340416331f1c16401cb441dd5c"), looks := false }, kinds := [], alts := [], laidByText := true, laidKinds := [.sentinel, .sentinel, .sentinel, .sentinel], laidTests := true, laidLooks := .later }
def FnPacketTurnedUptoCardSaid : Prop := Claim7.holds Tryz.pinned (.plain (OpenSpec.upto fnPacketTurnedSpec)) fnPacketTurnedUptoCard

/-- THE SECOND FORM's CARD OF 'laws.FnPacketTextIs'. -/
def fnPacketTextIsUptoCard : Claim7 := { stood := { row := fnPacketTextIsUptoRow, standIns := [], harness := (true, "820014466cd5023e22da4fbbd924b059f1755a340416331f1c16401cb441dd5c"), looks := false }, kinds := [], alts := [], laidByText := true, laidKinds := [.sentinel, .sentinel], laidTests := true, laidLooks := .later }
def FnPacketTextIsUptoCardSaid : Prop := Claim7.holds Tryz.pinned (.plain (OpenSpec.upto fnPacketTextIsSpec)) fnPacketTextIsUptoCard

/-- THE SECOND FORM's CARD OF 'laws.FnPacketIs'. -/
def fnPacketIsUptoCard : Claim7 := { stood := { row := fnPacketIsUptoRow, standIns := [], harness := (true, "820014466cd5023e22da4fbbd924b059f1755a340416331f1c16401cb441dd5c"), looks := false }, kinds := [], alts := [], laidByText := true, laidKinds := [.sentinel, .sentinel, .sentinel, .sentinel], laidTests := true, laidLooks := .later }
def FnPacketIsUptoCardSaid : Prop := Claim7.holds Tryz.pinned (.plain (OpenSpec.upto fnPacketIsSpec)) fnPacketIsUptoCard
end Rows
end Go.Proofs.YtdpmbchamefkmaaGreatDoor
