/-
The reference's small functions: numbers as bytes, pieces joined, filled up.
-/
import Derived.Test.YtdpmbchamefkmaaGreatDoorBase
namespace Go.Proofs.YtdpmbchamefkmaaGreatDoor
open Go.RowKit

set_option maxHeartbeats 400000 in
theorem padding_any (n : Int) (w : World) (h0 : 0 ≤ n) :
    Calls Tryz.prog 39 #[.int .i64 n] w fun e w' => e = .returned (.int .i64 ((4 - n % 4) % 4)) ∧ w = w' := by
  go_enter Tryz.func39, Tryz.ntmps39
  go_wp2
  go_ret
  exact ⟨rfl, rfl⟩

set_option maxHeartbeats 400000 in
theorem specPadding_any (n : Int) (w : World) (h0 : 0 ≤ n) :
    Calls Tryz.prog 30 #[.int .i64 n] w fun e w' => e = .returned (.int .i64 ((4 - n % 4) % 4)) ∧ w = w' := by
  go_enter Tryz.func30, Tryz.ntmps30
  go_wp2
  go_ret
  exact ⟨rfl, rfl⟩

set_option maxHeartbeats 400000 in
theorem flag_any (b : Bool) (n : Int) (w : World) :
    Calls Tryz.prog 34 #[.bool b, .int .i64 n] w fun e w' => e = .returned (.int .i64 (if b then n else 0)) ∧ w = w' := by
  go_enter Tryz.func34, Tryz.ntmps34
  cases b
  all_goals
    go_wp2
    go_ret
    exact ⟨rfl, rfl⟩

/-! ### numbers as bytes, the highest first -/
def be2 (n : Nat) : List UInt8 := [UInt8.ofNat (n / 256), UInt8.ofNat n]
def be4 (n : Nat) : List UInt8 := [UInt8.ofNat (n / 16777216), UInt8.ofNat (n / 65536), UInt8.ofNat (n / 256), UInt8.ofNat n]

theorem be2_length (n : Nat) : (be2 n).length = 2 := rfl
theorem be4_length (n : Nat) : (be4 n).length = 4 := rfl

theorem byte_val (n : Nat) (k : Int) (h : k = ((n % 256 : Nat) : Int)) : Value.int .u8 k = .int .u8 (UInt8.ofNat n).toNat := by
  rw [h]; simp

theorem own_empty (w : World) (T : TypeId) (size : Nat) : (w.alloc (.cells #[] T)).ownsRow w.heap.size T size (.slice (some ⟨w.heap.size, 0, none⟩) 0 0) 0 [] :=
  World.ownsRow_made w #[] 0 (Nat.le_refl _) (by unfold maxLen; omega) (by simp)

theorem rd_new1 (w : World) (k : Nat) (hk : w.heap.size = k) (b : UInt8) : RdB (w.alloc (.cells #[.int .u8 b.toNat] 5)) (.slice (some ⟨k, 0, none⟩) 1 1) [b] := by
  subst hk
  exact RdB.lit1 [b] (heap_alloc_new w _) rfl

set_option maxHeartbeats 1000000 in
theorem number2 (n : Nat) (w : World) :
    Calls Tryz.prog 19 #[.int .i64 n, .int .i64 2] w (RetB w 2 (be2 n)) := by
  have hown0 : OwnB (w.alloc (.cells #[] 5)) w.heap.size (.slice (some ⟨w.heap.size, 0, none⟩) 0 0) [] := own_empty w 5 1
  go_enter Tryz.func19, Tryz.ntmps19
  go_wp2
  refine wp_loop_rounds 3 ?_
  rw [rounds_succ]
  go_wp2_with (at_builtin; refine wpl_appB w [] [UInt8.ofNat (n / 256)] rfl _ _ rfl _ rfl _ rfl (hown0.grow ?_) ?_ ?_ ?_ ?_)
  · exact (Grow.refl _).alloc (Nat.le_refl _) _
  · rw [byte_val (n / 256) _ (by omega)]; exact rd_new1 _ _ (by simp) _
  · simp
  · exact ((Grow.refl w).alloc (Nat.le_refl _) _).alloc (by simp) _
  intro v1 w1 ho1 hb1
  go_wp2
  rw [rounds_succ]
  go_wp2_with (at_builtin; refine wpl_appB w [UInt8.ofNat (n / 256)] [UInt8.ofNat n] rfl _ _ rfl _ rfl _ rfl (ho1.grow ?_) ?_ ?_ ?_ ?_)
  · exact (Grow.refl _).alloc (Nat.le_refl _) _
  · rw [byte_val n _ (by omega)]; exact rd_new1 _ _ (by simp) _
  · simp
  · exact hb1.alloc (hb1.size) _
  intro v2 w2 ho2 hb2
  go_wp2
  rw [rounds_succ]
  go_wp2
  go_ret
  exact RetB.mk _ rfl ho2 hb2 rfl

set_option maxHeartbeats 1000000 in
theorem number4 (n : Nat) (w : World) :
    Calls Tryz.prog 19 #[.int .i64 n, .int .i64 4] w (RetB w 4 (be4 n)) := by
  have hown0 : OwnB (w.alloc (.cells #[] 5)) w.heap.size (.slice (some ⟨w.heap.size, 0, none⟩) 0 0) [] := own_empty w 5 1
  go_enter Tryz.func19, Tryz.ntmps19
  go_wp2
  refine wp_loop_rounds 5 ?_
  rw [rounds_succ]
  go_wp2_with (at_builtin; refine wpl_appB w [] [UInt8.ofNat (n / 16777216)] rfl _ _ rfl _ rfl _ rfl (hown0.grow ?_) ?_ ?_ ?_ ?_)
  · exact (Grow.refl _).alloc (Nat.le_refl _) _
  · rw [byte_val (n / 16777216) _ (by omega)]; exact rd_new1 _ _ (by simp) _
  · simp
  · exact ((Grow.refl w).alloc (Nat.le_refl _) _).alloc (by simp) _
  intro v1 w1 ho1 hb1
  go_wp2
  rw [rounds_succ]
  go_wp2_with (at_builtin; refine wpl_appB w [UInt8.ofNat (n / 16777216)] [UInt8.ofNat (n / 65536)] rfl _ _ rfl _ rfl _ rfl (ho1.grow ?_) ?_ ?_ ?_ ?_)
  · exact (Grow.refl _).alloc (Nat.le_refl _) _
  · rw [byte_val (n / 65536) _ (by omega)]; exact rd_new1 _ _ (by simp) _
  · simp
  · exact hb1.alloc (hb1.size) _
  intro v2 w2 ho2 hb2
  go_wp2
  rw [rounds_succ]
  go_wp2_with (at_builtin; refine wpl_appB w [UInt8.ofNat (n / 16777216), UInt8.ofNat (n / 65536)] [UInt8.ofNat (n / 256)] rfl _ _ rfl _ rfl _ rfl (ho2.grow ?_) ?_ ?_ ?_ ?_)
  · exact (Grow.refl _).alloc (Nat.le_refl _) _
  · rw [byte_val (n / 256) _ (by omega)]; exact rd_new1 _ _ (by simp) _
  · simp
  · exact hb2.alloc (hb2.size) _
  intro v3 w3 ho3 hb3
  go_wp2
  rw [rounds_succ]
  go_wp2_with (at_builtin; refine wpl_appB w [UInt8.ofNat (n / 16777216), UInt8.ofNat (n / 65536), UInt8.ofNat (n / 256)] [UInt8.ofNat n] rfl _ _ rfl _ rfl _ rfl (ho3.grow ?_) ?_ ?_ ?_ ?_)
  · exact (Grow.refl _).alloc (Nat.le_refl _) _
  · rw [byte_val n _ (by omega)]; exact rd_new1 _ _ (by simp) _
  · simp
  · exact hb3.alloc (hb3.size) _
  intro v4 w4 ho4 hb4
  go_wp2
  rw [rounds_succ]
  go_wp2
  go_ret
  exact RetB.mk _ rfl ho4 hb4 rfl

end Go.Proofs.YtdpmbchamefkmaaGreatDoor
