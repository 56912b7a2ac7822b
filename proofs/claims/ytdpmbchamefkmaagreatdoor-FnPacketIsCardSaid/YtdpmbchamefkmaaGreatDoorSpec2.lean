/-
The reference's functions over pieces of bytes.
-/
import Derived.Test.YtdpmbchamefkmaaGreatDoorSpec1
namespace Go.Proofs.YtdpmbchamefkmaaGreatDoor
open Go.RowKit

theorem take_succ_flatten (ls : List (List UInt8)) (k : Nat) (hk : k < ls.length) : (ls.take (k + 1)).flatten = (ls.take k).flatten ++ ls[k] := by
  rw [List.take_succ_eq_append_getElem hk, List.flatten_append]
  simp only [List.flatten_cons, List.flatten_nil, List.append_nil]

theorem take_flatten_le (ls : List (List UInt8)) (k : Nat) : (ls.take k).flatten.length ≤ ls.flatten.length := by
  conv => rhs; rw [← List.take_append_drop k ls]
  rw [List.flatten_append, List.length_append]; omega

set_option maxHeartbeats 1000000 in
theorem joined_any (v : Value) (ls : List (List UInt8)) (n : Nat) (w : World) (hv : RdBs w v ls) (hlen : ls.flatten.length ≤ 140737488355328) (hn : ls.length ≤ 140737488355328) (hsum : ls.flatten.length = n) :
    Calls Tryz.prog 18 #[v] w (RetB w n ls.flatten) := by
  obtain ⟨ao, c, rfl⟩ := hv.form
  have HS := Lib.hid hsum
  clear hsum
  have hown0 : OwnB (w.alloc (.cells #[] 5)) w.heap.size (.slice (some ⟨w.heap.size, 0, none⟩) 0 0) [] := own_empty w 5 1
  have hb0 : Grow w (w.alloc (.cells #[] 5)) := (Grow.refl _).alloc (Nat.le_refl _) _
  go_enter Tryz.func18, Tryz.ntmps18
  go_wp2
  go_loopw [3, 5, 9] (fun u _ i wr => ∃ k : Nat, k ≤ ls.length ∧ i = .int .i64 k ∧ OwnB wr w.heap.size u (ls.take k).flatten ∧ Grow w wr) (fun _ _ i _ => ls.length - (intOf i).toNat)
  case atStart => exact ⟨0, Nat.zero_le _, rfl, hown0, hb0⟩
  case round =>
    obtain ⟨k, hk, rfl, hown, hb⟩ := hrel
    by_cases hlt : k < ls.length
    · obtain ⟨g, o, u, rfl, hcell, hr⟩ := (hv.grow hb).at k hlt
      have h1 := take_flatten_le ls k
      have h2 := take_flatten_le ls (k + 1)
      rw [take_succ_flatten ls k hlt, List.length_append] at h2
      go_wp2_with (at_builtin; refine wpl_appB w (ls.take k).flatten ls[k] rfl _ _ rfl _ rfl _ rfl hown hr ?_ hb ?_)
      · omega
      intro v1 w1 ho1 hb1
      rw [← take_succ_flatten ls k hlt] at ho1
      go_wp2
      go_roundw
      case rel => exact ⟨k + 1, by omega, by go_num, ho1, hb1⟩
      case measure => simp [intOf]; omega
    · obtain rfl : k = ls.length := by omega
      rw [List.take_length] at hown
      go_wp2
      go_ret
      exact RetB.mk _ rfl hown hb HS.out
end Go.Proofs.YtdpmbchamefkmaaGreatDoor
