/-
The program's eight tables are made.
-/
import Derived.Test.YtdpmbchamefkmaaGreatDoorCrc1
namespace Go.Proofs.YtdpmbchamefkmaaGreatDoor
open Go.RowKit

theorem hand255 (x : Nat) (hx : x < 4294967296) : bits .and .u32 (x : Int) 255 = ((x % 256 : Nat) : Int) := by
  have := u32_and_nat x 255 hx (by omega)
  rw [nat_mask8] at this
  exact this

theorem hxor (a b : Nat) (ha : a < 4294967296) (hb : b < 4294967296) : bits .xor .u32 (a : Int) (b : Int) = ((a ^^^ b : Nat) : Int) := u32_xor_nat a b ha hb

theorem mid_row0 (i j x : Nat) (hx : x < 256) : (mid i j)[x]? = some (tabv x) := by
  have e1 : x / 256 = 0 := by omega
  have e2 : x % 256 = x := by omega
  rw [mid_get i j x (by omega), if_pos]
  · simp [tabsv, tabv, e1, e2, Crc.tabs_zero]
  · simp [laidB, e1]

set_option maxRecDepth 20000 in
set_option maxHeartbeats 1000000 in
theorem makeTable_any (w : World) :
    Calls Tryz.prog 45 #[.int .u32 2197175160] w fun e w' => ∃ b, e = .returned (.pointer (some ⟨b, 0, none⟩)) ∧ w.heap.size ≤ b ∧ Blk w' b 150 tabsL ∧ Grow w w' := by
  go_enter Tryz.func45, Tryz.ntmps45
  go_wp2_with (refine wpl_val rfl _ _ (run_new150 _ _) ?_)
  have hb0 := Blk.new w 150 tab0
  have hg0 := grow_alloc w (.cells tab0.toArray 150)
  have hle : w.heap.size ≤ w.heap.size := Nat.le_refl _
  generalize w.alloc (.cells tab0.toArray 150) = w1 at hb0 hg0 ⊢
  obtain ⟨b, hbn⟩ : ∃ b, b = w.heap.size := ⟨_, rfl⟩
  have hle : w.heap.size ≤ b := by omega
  rw [← hbn] at hb0 ⊢
  clear hbn
  go_wp2_with (go_at_call 48; refine (populate_any b tab0 _ hb0 (by simp [tab0])).mono ?_; rintro e w2 ⟨rfl, hb2, ho2⟩)
  rw [mid_start] at hb2
  have hg2 : Grow w w2 := ho2.below hg0 hle
  clear hb0 hg0 ho2
  go_loopw [4, 5, 6] (fun i _ _ wr => ∃ k : Nat, k ≤ 256 ∧ i = .int .i64 k ∧ Blk wr b 150 (mid k 1) ∧ Grow w wr) (fun i _ _ _ => 256 - (intOf i).toNat)
  case atStart => exact ⟨0, by omega, rfl, hb2, hg2⟩
  case round =>
    clear hb2 hg2
    obtain ⟨k, hk, rfl, hbr, hgr⟩ := hrel
    by_cases hlt : k < 256
    · have hc : wr.cell? ⟨b, k, none⟩ = some (.int .u32 (Crc.tab k : Nat)) := hbr.cell k _ (mid_row0 k 1 k hlt)
      have ht0 := Lib.hid (Crc.tabs_zero k)
      go_wp2
      obtain ⟨wo, hwo⟩ : ∃ wo : World, wo = wr := ⟨_, rfl⟩
      go_loopw [5, 6] (fun t j wr' => ∃ n : Nat, 1 ≤ n ∧ n ≤ 8 ∧ j = .int .i64 n ∧ t = .int .u32 (Crc.tabs (n - 1) k : Nat) ∧ Blk wr' b 150 (mid k n) ∧ Grow w wr') (fun _ j _ => 8 - (intOf j).toNat)
      case atStart => exact ⟨1, by omega, by omega, rfl, by rw [← ht0.out], hbr, hgr⟩
      case round =>
        clear hbr hgr hc hwo
        obtain ⟨n, hn1, hn8, rfl, rfl, hbr, hgr⟩ := hrel
        by_cases hn : n < 8
        · have hx := Crc.tabs_lt (n - 1) k hlt
          have hs := Lib.hid (Crc.tabs_succ (n - 1) k)
          rw [show n - 1 + 1 = n by omega] at hs
          generalize Crc.tabs (n - 1) k = x at *
          have h1 := hand255 x hx
          have hxm : x % 256 < 256 := by omega
          have hc := hbr.cell (x % 256) _ (mid_row0 k n (x % 256) hxm)
          simp only [tabv] at hc
          have htl := Crc.tab_lt (x % 256) hxm
          have h2 : bits .xor .u32 ((Crc.tab (x % 256) : Nat) : Int) ((x : Int) / 256) = ((Crc.tab (x % 256) ^^^ (x / 256) : Nat) : Int) := hxor _ (x / 256) htl (by omega)
          obtain ⟨u, hc2⟩ := blk_get hbr (n * 256 + k) (by rw [mid_length]; omega)
          have hf2 := hbr.free (n * 256 + k)
          have hv : RowKit.Hid (Value.int .u32 (Crc.tab (x % 256) ^^^ (x / 256) : Nat) = tabsv (n * 256 + k)) := by
            unfold tabsv
            rw [show (n * 256 + k) / 256 = n by omega, show (n * 256 + k) % 256 = k by omega, hs.out]
            exact rfl
          go_wp2
          go_roundw
          case rel =>
            refine ⟨n + 1, by omega, by omega, by go_num, by rw [Nat.add_sub_cancel, hs.out], ?_, ?_⟩
            · rw [hv.out, ← mid_set k n hlt]
              exact hbr.set _ _
            · exact (Only.setCell b _ _ _).below hgr hle
          case measure => simp [intOf]; omega
        · obtain rfl : n = 8 := by omega
          rw [mid_next k hlt] at hbr
          go_wp2
          go_roundw
          case rel => exact ⟨k + 1, by omega, by go_num, hbr, hgr⟩
          case measure => simp [intOf]; omega
    · obtain rfl : k = 256 := by omega
      go_wp2
      go_ret
      exact ⟨b, rfl, hle, hbr, hgr⟩
end Go.Proofs.YtdpmbchamefkmaaGreatDoor
