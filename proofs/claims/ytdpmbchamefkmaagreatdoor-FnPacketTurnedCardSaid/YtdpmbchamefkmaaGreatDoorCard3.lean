/-
A packet with a bit turned in its checksum is none, if the checksum is looked at: the statement's card, for every source, destination, tag, selective acknowledgement and bit; the listed package variables hold what the program's text lays.
-/
import Derived.Test.YtdpmbchamefkmaaGreatDoorRow3
import Derived.Test.YtdpmbchamefkmaaGreatDoorCards
import Derived.Test.YtdpmbchamefkmaaGreatDoorTie
import Derived.SevenTiedAt
namespace Go.Proofs.YtdpmbchamefkmaaGreatDoor
open Go

theorem fnPacketTurned_card : Rows.FnPacketTurnedCardSaid :=
  Claim7.holds_tied_plain_at .later [] [.sentinel, .sentinel, .sentinel, .sentinel] true (true, "820014466cd5023e22da4fbbd924b059f1755a340416331f1c16401cb441dd5c") false
    fnPacketTurned_holds (fun _ h => by cases h) (by kernel_rfl) (fun _ h => by cases h) fnPacketTurned_row_tie rfl ⟨rfl, rfl⟩ (by kernel_rfl) rfl
    (fun f fn hf hfn => by
      obtain rfl : f = 3 := Option.some.inj ((show Tryz.prog.funcNamed "loop.example/pub-g03037/laws.FnPacketTurned" = some 3 by kernel_rfl).symm.trans hf) |>.symm
      obtain rfl : fn = Tryz.f3 := (Option.some.inj (Tryz.func3.symm.trans hfn)).symm
      exact ⟨by kernel_rfl, fun j t ht => by
        rw [Tryz.params3] at ht
        have h3 : t = 3 ∨ t = 22 ∨ t = 26 := by
          rcases j with _ | _ | _ | _ | _ | j
          · exact .inl (by simpa using ht.symm)
          · exact .inl (by simpa using ht.symm)
          · exact .inr (.inl (by simpa using ht.symm))
          · exact .inr (.inr (by simpa using ht.symm))
          · exact .inl (by simpa using ht.symm)
          · simp at ht
        rcases h3 with rfl | rfl | rfl
        · exact (show Tryz.prog.wantsStandIn 3 = false by kernel_rfl)
        · exact (show Tryz.prog.wantsStandIn 22 = false by kernel_rfl)
        · exact (show Tryz.prog.wantsStandIn 26 = false by kernel_rfl)⟩)
    (by kernel_rfl)
#print axioms fnPacketTurned_card
end Go.Proofs.YtdpmbchamefkmaaGreatDoor
