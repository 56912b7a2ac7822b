/-
A packet is read back as it was written, whether its checksum is looked at or not: the statement's card, for every source, destination, tag, user data, selective acknowledgement and move onward; the listed package variables hold what the program's text lays.
-/
import Derived.Test.YtdpmbchamefkmaaGreatDoorRow5
import Derived.Test.YtdpmbchamefkmaaGreatDoorCards
import Derived.Test.YtdpmbchamefkmaaGreatDoorTie
import Derived.SevenTiedAt
namespace Go.Proofs.YtdpmbchamefkmaaGreatDoor
open Go

theorem fnPacketIs_card : Rows.FnPacketIsCardSaid :=
  Claim7.holds_tied_plain_at .later [] [.sentinel, .sentinel, .sentinel, .sentinel] true (true, "820014466cd5023e22da4fbbd924b059f1755a340416331f1c16401cb441dd5c") false
    fnPacketIs_holds (fun _ h => by cases h) (by kernel_rfl) (fun _ h => by cases h) fnPacketIs_row_tie rfl ⟨rfl, rfl⟩ (by kernel_rfl) rfl
    (fun f fn hf hfn => by
      obtain rfl : f = 5 := Option.some.inj ((show Tryz.prog.funcNamed "loop.example/pub-g03037/laws.FnPacketIs" = some 5 by kernel_rfl).symm.trans hf) |>.symm
      obtain rfl : fn = Tryz.f5 := (Option.some.inj (Tryz.func5.symm.trans hfn)).symm
      exact ⟨by kernel_rfl, fun j t ht => by
        rw [Tryz.params5] at ht
        have h3 : t = 3 ∨ t = 22 ∨ t = 35 ∨ t = 26 ∨ t = 37 ∨ t = 4 := by
          rcases j with _ | _ | _ | _ | _ | _ | _ | j
          · exact .inl (by simpa using ht.symm)
          · exact .inl (by simpa using ht.symm)
          · exact .inr (.inl (by simpa using ht.symm))
          · exact .inr (.inr (.inl (by simpa using ht.symm)))
          · exact .inr (.inr (.inr (.inl (by simpa using ht.symm))))
          · exact .inr (.inr (.inr (.inr (.inl (by simpa using ht.symm)))))
          · exact .inr (.inr (.inr (.inr (.inr (by simpa using ht.symm)))))
          · simp at ht
        rcases h3 with rfl | rfl | rfl | rfl | rfl | rfl
        · exact (show Tryz.prog.wantsStandIn 3 = false by kernel_rfl)
        · exact (show Tryz.prog.wantsStandIn 22 = false by kernel_rfl)
        · exact (show Tryz.prog.wantsStandIn 35 = false by kernel_rfl)
        · exact (show Tryz.prog.wantsStandIn 26 = false by kernel_rfl)
        · exact (show Tryz.prog.wantsStandIn 37 = false by kernel_rfl)
        · exact (show Tryz.prog.wantsStandIn 4 = false by kernel_rfl)⟩)
    (by kernel_rfl)
#print axioms fnPacketIs_card
end Go.Proofs.YtdpmbchamefkmaaGreatDoor
