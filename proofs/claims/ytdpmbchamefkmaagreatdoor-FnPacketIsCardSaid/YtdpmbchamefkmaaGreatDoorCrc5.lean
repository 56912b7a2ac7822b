/-
The program's CRC-32 of a packet.
-/
import Derived.Test.YtdpmbchamefkmaaGreatDoorCrc4
import Derived.Test.YtdpmbchamefkmaaGreatDoorSpec6
namespace Go.Proofs.YtdpmbchamefkmaaGreatDoor
open Go.RowKit

set_option maxRecDepth 20000 in
set_option maxHeartbeats 1000000 in
theorem slicingUpdate_any (c : Nat) (v : Value) (l : List UInt8) (w : World) (hc : c < 4294967296) (hv : RdB w v l) (hn : l.length ≤ 140737488355328) :
    Calls Tryz.prog 43 #[.int .u32 c, .int .u32 2197175160, v] w fun e w' => e = .returned (.int .u32 (Crc.update c (nats l) : Nat)) ∧ Grow w w' := by
  obtain ⟨ao, c0, rfl⟩ := hv.form
  go_enter Tryz.func43, Tryz.ntmps43
  go_wp2_with (first | (go_at_call 45; (with_reducible refine (makeTable_any w).mono ?_); rintro e w1 ⟨b, rfl, hle, hb, hg⟩) | (go_at_call 44; (with_reducible refine (slicing_any c b _ l _ hc hb (hv.grow hg) hn).mono ?_); rintro e w2 ⟨rfl, hg2⟩))
  go_ret
  exact ⟨rfl, hg.trans hg2⟩

theorem update_lt (c : Nat) (l : List Nat) : Crc.update c l < 4294967296 := Crc.inv_lt _

theorem update_bare (l : List UInt8) : Crc.update (Crc.update (Crc.update 0 (nats (l.take 8))) (nats z4)) (nats (l.drop 12)) = Crc.crc (nats (bareB l)) := by
  rw [Crc.update_append _ (nats (l.take 8)) _ (nats_lt _), Crc.update_append _ (nats (l.take 8) ++ nats z4) _ (by intro x hx; rcases List.mem_append.1 hx with h | h <;> exact nats_lt _ x h)]
  have h0 : Crc.inv 0 = 4294967295 := by decide
  unfold Crc.update Crc.crc
  rw [h0]
  simp [bareB, nats]

set_option maxRecDepth 20000 in
set_option maxHeartbeats 1000000 in
theorem checksum_any (v : Value) (l : List UInt8) (w : World) (hv : RdB w v l) (h12 : 12 ≤ l.length) (hlen : l.length ≤ 140737488355000) :
    Calls Tryz.prog 36 #[v] w fun e w' => e = .returned (.int .u32 (Crc.crc (nats (bareB l)) : Nat)) ∧ Grow w w' := by
  obtain ⟨a1, c1, hcut1, hr1⟩ := cut_lh hv 0 8 8 0 8 rfl rfl rfl (by omega)
  obtain ⟨a2, c2, hcut2, hr2⟩ := cut_l hv 12 (l.length - 12) 12 rfl (by omega)
  have hmk := run_make4
  have hr0 := hr1 w hv
  rw [List.drop_zero] at hr0
  have hcall0 := fun w1 h => slicingUpdate_any 0 (.slice a1 8 c1) (l.take 8) w1 (by omega) h (by rw [List.length_take]; omega)
  rw [show ((0 : Nat) : Int) = 0 from rfl] at hcall0
  have HU := update_bare l
  obtain ⟨u1, hu1⟩ : ∃ u, u = Crc.update 0 (nats (l.take 8)) := ⟨_, rfl⟩
  have hl1 : u1 < 4294967296 := by rw [hu1]; exact update_lt _ _
  rw [← hu1] at hcall0 HU
  have hcall1 := fun w1 k h => slicingUpdate_any u1 (.slice (some ⟨k, 0, none⟩) 4 4) z4 w1 hl1 h (by simp [z4])
  obtain ⟨u2, hu2⟩ : ∃ u, u = Crc.update u1 (nats z4) := ⟨_, rfl⟩
  have hl2 : u2 < 4294967296 := by rw [hu2]; exact update_lt _ _
  rw [← hu2] at hcall1 HU
  have hcall2 := fun w1 h => slicingUpdate_any u2 (.slice a2 (l.length - 12) c2) (l.drop 12) w1 hl2 h (by rw [List.length_drop]; omega)
  obtain ⟨u3, hu3⟩ : ∃ u, u = Crc.update u2 (nats (l.drop 12)) := ⟨_, rfl⟩
  rw [← hu3] at hcall2 HU
  have HU := Lib.hid HU
  clear hu1 hu2 hu3
  go_enter Tryz.func36, Tryz.ntmps36
  go_wp2_with (go_at_call 43; (with_reducible refine (hcall0 _ hr0).mono ?_); rintro e w1 ⟨rfl, hg1⟩)
  go_wp2_with (refine wpl_val rfl _ _ (run_make4 _) ?_)
  have hz := rd_make4 w1 w1.heap.size rfl
  have hg2 := hg1.trans (grow_alloc w1 (.cells #[.int .u8 0, .int .u8 0, .int .u8 0, .int .u8 0] 5))
  generalize w1.alloc (.cells #[.int .u8 0, .int .u8 0, .int .u8 0, .int .u8 0] 5) = w2 at *
  go_wp2_with (go_at_call 43; (with_reducible refine (hcall1 _ _ hz).mono ?_); rintro e w3 ⟨rfl, hg3⟩)
  have hr3 := hr2 w3 (hv.grow (hg2.trans hg3))
  go_wp2_with (go_at_call 43; (with_reducible refine (hcall2 _ hr3).mono ?_); rintro e w4 ⟨rfl, hg4⟩)
  go_ret
  exact ⟨rfl, (hg2.trans hg3).trans hg4⟩
end Go.Proofs.YtdpmbchamefkmaaGreatDoor
