/-
The program's CRC-32, byte by byte.
-/
import Derived.Test.YtdpmbchamefkmaaGreatDoorCrc2
namespace Go.Proofs.YtdpmbchamefkmaaGreatDoor
open Go.RowKit

theorem hxor8 (a b : Nat) (ha : a < 256) (hb : b < 256) : bits .xor .u8 (a : Int) (b : Int) = ((a ^^^ b : Nat) : Int) := u8_xor_nat a b ha hb

theorem tabsL_row0 (x : Nat) (hx : x < 256) : tabsL[x]? = some (.int .u32 (Crc.tab x : Nat)) := mid_row0 256 1 x hx

set_option maxRecDepth 20000 in
set_option maxHeartbeats 1000000 in
theorem simple_any (c b : Nat) (v : Value) (l : List UInt8) (w : World) (hc : c < 4294967296) (hb : Blk w b 150 tabsL) (hv : RdB w v l) (hn : l.length ≤ 140737488355328) :
    Calls Tryz.prog 47 #[.int .u32 c, .pointer (some ⟨b, 0, none⟩), v] w fun e w' => e = .returned (.int .u32 (Crc.update c (nats l) : Nat)) ∧ Grow w w' := by
  obtain ⟨ao, c0, rfl⟩ := hv.form
  have hin := inv_bits c hc
  go_enter Tryz.func47, Tryz.ntmps47
  go_wp2
  clear hin
  go_loopw [0, 8, 13] (fun s _ i wr => ∃ k : Nat, k ≤ l.length ∧ i = .int .i64 k ∧ s = .int .u32 (Crc.upds (Crc.inv c) (nats (l.take k)) : Nat) ∧ Grow w wr) (fun _ _ i _ => l.length - (intOf i).toNat)
  case atStart => exact ⟨0, Nat.zero_le _, rfl, rfl, Grow.refl _⟩
  case round =>
    obtain ⟨k, hk, rfl, rfl, hg⟩ := hrel
    by_cases hlt : k < l.length
    · obtain ⟨g, o, c', hc1, hc2, hcell⟩ := (hv.grow hg).at (by omega)
      simp only [Value.slice.injEq, true_and] at hc1
      obtain ⟨rfl, rfl⟩ := hc1
      have hce := hcell k l[k] (List.getElem?_eq_getElem hlt)
      clear hcell
      have hs : Crc.upds (Crc.inv c) (nats (l.take k)) < 4294967296 := Crc.upds_lt _ _ (Crc.inv_lt _) (nats_lt _)
      have hstep := upds_take_succ (Crc.inv c) l k hlt
      have hbt : l[k].toNat < 256 := l[k].toNat_lt
      rw [Crc.upd_tab _ _ hbt] at hstep
      have hstep := Lib.hid hstep
      generalize Crc.upds (Crc.inv c) (nats (l.take k)) = s at *
      have hx := hxor8 (s % 256) l[k].toNat (by omega) hbt
      rw [show ((s % 256 : Nat) : Int) = (s : Int) % 256 by omega] at hx
      have hi : (s % 256) ^^^ l[k].toNat < 256 := Nat.xor_lt_two_pow (n := 8) (by omega) (by omega)
      have hct := (hb.grow hg).cell _ _ (tabsL_row0 _ hi)
      have htl := Crc.tab_lt _ hi
      generalize (s % 256) ^^^ l[k].toNat = x at *
      have h2 : bits .xor .u32 ((Crc.tab x : Nat) : Int) ((s : Int) / 256) = ((Crc.tab x ^^^ (s / 256) : Nat) : Int) := hxor _ (s / 256) htl (by omega)
      go_wp2
      go_roundw
      case rel => exact ⟨k + 1, by omega, by go_num, by rw [hstep.out], hg⟩
      case measure => simp [intOf]; omega
    · obtain rfl : k = l.length := by omega
      have hs : Crc.upds (Crc.inv c) (nats (l.take l.length)) < 4294967296 := Crc.upds_lt _ _ (Crc.inv_lt _) (nats_lt _)
      have he : Hid (Crc.update c (nats l) = Crc.inv (Crc.upds (Crc.inv c) (nats l))) := rfl
      rw [List.take_length] at *
      generalize Crc.upds (Crc.inv c) (nats l) = s at *
      have hin := inv_bits s hs
      go_wp2
      go_ret
      exact ⟨by rw [he.out]; rfl, hg⟩

/- as leUint32 of the package reads four bytes -/
set_option maxRecDepth 20000 in
set_option maxHeartbeats 1000000 in
theorem crcU32_any (v : Value) (l : List UInt8) (w : World) (hv : RdB w v l) (hk : 4 ≤ l.length) :
    Calls Tryz.prog 46 #[v] w fun e w' => e = .returned (.int .u32 (le32of l : Nat)) ∧ Grow w w' := by
  obtain ⟨g, o, c, b0, b1, b2, b3, r, rfl, rfl, c0, c1, c2, c3⟩ := cells4 hv hk
  have h0 : b0.toNat < 256 := b0.toNat_lt
  have h1 : b1.toNat < 256 := b1.toNat_lt
  have h2 : b2.toNat < 256 := b2.toNat_lt
  have h3 : b3.toNat < 256 := b3.toNat_lt
  have hn : 4 ≤ (b0 :: b1 :: b2 :: b3 :: r).length := hk
  clear hv hk
  generalize (b0 :: b1 :: b2 :: b3 :: r).length = n at hn
  have n0 : 0 < n := by omega
  have n1 : (1 : Int) < (n : Int) := by omega
  have n2 : (2 : Int) < (n : Int) := by omega
  have n3 : (3 : Int) < (n : Int) := by omega
  have d0 : ∀ w1, Grow w.drew w1 → w1.cell? ⟨g, o, none⟩ = some (.int .u8 b0.toNat) := fun w1 hw => cell_grow (grow_drew hw) c0
  have d1 : ∀ w1, Grow w.drew w1 → w1.cell? ⟨g, o + 1, none⟩ = some (.int .u8 b1.toNat) := fun w1 hw => cell_grow (grow_drew hw) c1
  have d2 : ∀ w1, Grow w.drew w1 → w1.cell? ⟨g, o + 2, none⟩ = some (.int .u8 b2.toNat) := fun w1 hw => cell_grow (grow_drew hw) c2
  have d3 : ∀ w1, Grow w.drew w1 → w1.cell? ⟨g, o + 3, none⟩ = some (.int .u8 b3.toNat) := fun w1 hw => cell_grow (grow_drew hw) c3
  have e3 := c3
  go_enter Tryz.func46, Tryz.ntmps46
  go_wp2
  refine wp_region_calm 22 28 Tryz.mixed rfl (by kernel_rfl) ?_
  simp only [List.take_succ_cons, List.take_zero, List.drop_succ_cons, List.drop_zero]
  iterate 22
    apply calm_val (D' := []) (hD := rfl)
    · intro w1 hw1
      simp only [fillAll]
      go_simp
      exact ⟨rfl, Grow.refl _⟩
    simp only [Act.put, List.setIfInBounds_toArray, List.set_cons_succ, List.set_cons_zero]
  intro w1 hw1
  simp only [fillAll]
  go_wp2
  go_ret
  refine ⟨?_, grow_drew hw1⟩
  refine ret_int (b := ((b0.toNat + b1.toNat * 256 + b2.toNat * 65536 + b3.toNat * 16777216 : Nat) : Int)) ?_
  simp (disch := omega) only [u32_wrap_id, u32_or8, u32_or16, u32_or24]
  omega

end Go.Proofs.YtdpmbchamefkmaaGreatDoor
