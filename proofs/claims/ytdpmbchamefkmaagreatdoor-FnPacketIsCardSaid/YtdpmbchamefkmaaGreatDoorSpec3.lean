/-
The reference's checksum, bit by bit.
-/
import Derived.Test.YtdpmbchamefkmaaGreatDoorSpec2
import Derived.Test.YtdpmbchamefkmaaGreatDoorCrc
namespace Go.Proofs.YtdpmbchamefkmaaGreatDoor
open Go.RowKit

/-- bytes as numbers -/
abbrev nats (l : List UInt8) : List Nat := l.map UInt8.toNat

theorem nats_lt (l : List UInt8) : ∀ b ∈ nats l, b < 256 := by
  intro b hb
  obtain ⟨x, _, rfl⟩ := List.mem_map.1 hb
  exact x.toNat_lt

theorem rnd_hand (x : Nat) (hx : x < 4294967296) : bits .and .u32 (x : Int) 1 = ((x % 2 : Nat) : Int) := by
  have := u32_and_nat x 1 hx (by omega)
  rw [nat_mask1] at this
  exact this

theorem rnd_hxor (x : Nat) (hx : x < 4294967296) : bits .xor .u32 (x : Int) 2197175160 = ((x ^^^ Crc.P : Nat) : Int) := u32_xor_nat x 2197175160 hx (by omega)

theorem ret_int {k : IntKind} {a b : Int} (h : a = b) : Ending.returned (.int k a) = .returned (.int k b) := by rw [h]

theorem xor_ones (s : Nat) (hs : s < 4294967296) : 4294967295 ^^^ s = Crc.inv s := by
  have h : (BitVec.ofNat 32 s ^^^ BitVec.allOnes 32).toNat = 2 ^ 32 - 1 - (BitVec.ofNat 32 s).toNat := by
    rw [BitVec.xor_allOnes, BitVec.toNat_not]
  have e : (BitVec.ofNat 32 s).toNat = s := by rw [BitVec.toNat_ofNat]; exact Nat.mod_eq_of_lt (by simpa using hs)
  rw [BitVec.toNat_xor, e, BitVec.toNat_allOnes, Nat.xor_comm] at h
  exact h

theorem inv_bits (s : Nat) (hs : s < 4294967296) : bits .xor .u32 IntKind.u32.max (s : Int) = ((Crc.inv s : Nat) : Int) := by
  have h := u32_xor_nat 4294967295 s (by omega) hs
  rw [xor_ones s hs] at h
  exact h

theorem upds_take_succ (s : Nat) (l : List UInt8) (k : Nat) (hk : k < l.length) : Crc.upds s (nats (l.take (k + 1))) = Crc.upd (Crc.upds s (nats (l.take k))) (l[k].toNat) := by
  rw [List.take_succ_eq_append_getElem hk, nats, List.map_append, Crc.upds_append]
  rfl

set_option maxHeartbeats 1000000 in
theorem crc_any (v : Value) (l : List UInt8) (w : World) (hv : RdB w v l) (hn : l.length ≤ 140737488355328) :
    Calls Tryz.prog 31 #[v] w fun e w' => e = .returned (.int .u32 (Crc.crc (nats l) : Nat)) ∧ Grow w w' := by
  obtain ⟨ao, c, rfl⟩ := hv.form
  go_enter Tryz.func31, Tryz.ntmps31
  go_wp2
  go_loopw [3, 5, 6, 7, 10] (fun s _ _ _ i wr => ∃ k : Nat, k ≤ l.length ∧ i = .int .i64 k ∧ s = .int .u32 (Crc.upds 4294967295 (nats (l.take k)) : Nat) ∧ Grow w wr) (fun _ _ _ _ i _ => l.length - (intOf i).toNat)
  case atStart => exact ⟨0, Nat.zero_le _, rfl, rfl, Grow.refl _⟩
  case round =>
    obtain ⟨k, hk, rfl, rfl, hb⟩ := hrel
    by_cases hlt : k < l.length
    · obtain ⟨g, o, c', hc1, hc2, hcell⟩ := (hv.grow hb).at (by omega)
      simp only [Value.slice.injEq, true_and] at hc1
      obtain ⟨rfl, rfl⟩ := hc1
      have hc := hcell k l[k] (List.getElem?_eq_getElem hlt)
      clear hcell
      have hs : Crc.upds 4294967295 (nats (l.take k)) < 4294967296 := Crc.upds_lt _ _ (by omega) (nats_lt _)
      have hstep := Lib.hid (upds_take_succ 4294967295 l k hlt)
      generalize Crc.upds 4294967295 (nats (l.take k)) = s at *
      have hbt := l[k].toNat_lt
      have hx := u32_xor_nat s l[k].toNat hs (by omega)
      have hxl : s ^^^ l[k].toNat < 4294967296 := Nat.xor_lt_two_pow (n := 32) (by simpa using hs) (by omega)
      go_wp2
      clear hx
      go_loop [3, 6, 7] (fun t j _ => ∃ n : Nat, n ≤ 8 ∧ j = .int .i64 n ∧ t = .int .u32 (Crc.rnds n (s ^^^ l[k].toNat) : Nat)) (fun _ j _ => 8 - (intOf j).toNat)
      case atStart => exact ⟨0, by omega, rfl, rfl⟩
      case round =>
        obtain ⟨n, hn8, rfl, rfl⟩ := hrel
        by_cases hn : n < 8
        · have ht := Crc.rnds_lt n (s ^^^ l[k].toNat) (by simpa using hxl)
          have hsn := Lib.hid (Crc.rnds_succ' n (s ^^^ l[k].toNat))
          generalize Crc.rnds n (s ^^^ l[k].toNat) = t at *
          have h1 := rnd_hand t (by simpa using ht)
          have h2 : bits .xor .u32 ((t : Int) / 2) 2197175160 = ((t / 2 ^^^ Crc.P : Nat) : Int) := rnd_hxor (t / 2) (by omega)
          by_cases hodd : t % 2 = 1
          · have HR := Lib.hid (show Crc.rnd t = (t / 2) ^^^ Crc.P by unfold Crc.rnd; rw [if_pos hodd])
            rw [hodd] at h1
            clear hodd
            go_wp2
            go_round
            case rel => exact ⟨n + 1, by omega, by go_num, by rw [hsn.out, HR.out]⟩
            case measure => simp [intOf]; omega
          · have HR := Lib.hid (show Crc.rnd t = t / 2 by unfold Crc.rnd; rw [if_neg hodd])
            obtain hev : t % 2 = 0 := by omega
            rw [hev] at h1
            clear hodd hev h2
            go_wp2
            go_round
            case rel => exact ⟨n + 1, by omega, by go_num, by rw [hsn.out, HR.out]; go_num⟩
            case measure => simp [intOf]; omega
        · obtain rfl : n = 8 := by omega
          go_wp2
          go_roundw
          case rel => exact ⟨k + 1, by omega, by go_num, by rw [hstep.out]; rfl, hb⟩
          case measure => simp [intOf]; omega
    · obtain rfl : k = l.length := by omega
      have hs : Crc.upds 4294967295 (nats (l.take l.length)) < 4294967296 := Crc.upds_lt _ _ (by omega) (nats_lt _)
      rw [List.take_length] at *
      have he : Hid ((Crc.crc (nats l) : Nat) = Crc.inv (Crc.upds 4294967295 (nats l))) := rfl
      generalize Crc.upds 4294967295 (nats l) = s at *
      go_wp2
      go_ret
      refine ⟨?_, hb⟩
      rw [he.out]
      exact ret_int (inv_bits s hs)
end Go.Proofs.YtdpmbchamefkmaaGreatDoor
