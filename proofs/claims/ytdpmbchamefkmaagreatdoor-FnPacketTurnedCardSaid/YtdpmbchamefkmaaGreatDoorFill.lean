/-
A buffer filled from its front.
-/
import Derived.Test.YtdpmbchamefkmaaGreatDoorTac2
namespace Go.Proofs.YtdpmbchamefkmaaGreatDoor
open Go.RowKit

def fill (N : Nat) (d : List UInt8) : List UInt8 := d ++ zerosB (N - d.length)
theorem fill_nil (N : Nat) : fill N [] = zerosB N := by simp [fill]
theorem fill_length (N : Nat) (d : List UInt8) (h : d.length ≤ N) : (fill N d).length = N := by simp [fill, zerosB_length]; omega
theorem fill_full (N : Nat) (d : List UInt8) (h : d.length = N) : fill N d = d := by simp [fill, h, zerosB]
theorem fill_put (N lo : Nat) (d bs : List UInt8) (hd : d.length = lo) (h : lo + bs.length ≤ N) : putL (fill N d) lo bs = fill N (d ++ bs) := by
  subst hd
  unfold putL fill
  rw [List.take_left' rfl, List.append_assoc]
  congr 2
  rw [List.drop_append, List.drop_eq_nil_of_le (by omega), List.nil_append, show d.length + bs.length - d.length = bs.length by omega, zerosB, List.drop_replicate, List.length_append]
  unfold zerosB
  congr 1; omega

theorem fillP32 (g lo m c N : Nat) (d : List UInt8) (x : Nat) (w : World) (hb : Blk w g 5 (bc (fill N d))) (hN : N ≤ 140737488355328) (hd : d.length = lo) (hx : x < 4294967296) (hlo : lo + 4 ≤ N) (hm : 4 ≤ m) :
    Calls Tryz.prog 41 #[.agg #[], .slice (some ⟨g, lo, none⟩) m c, .int .u32 x] w fun e w' => e = .returned (.tuple #[]) ∧ Blk w' g 5 (bc (fill N (d ++ be4 x))) ∧ Only g w w' := by
  have hl := fill_length N d (by omega)
  have := bufP32 g lo m c (fill N d) x w hb (by omega) hx (by omega) hm
  rw [fill_put N lo d _ hd (by rw [be4_length]; omega)] at this
  exact this
theorem fillP16 (g lo m c N : Nat) (d : List UInt8) (x : Nat) (w : World) (hb : Blk w g 5 (bc (fill N d))) (hN : N ≤ 140737488355328) (hd : d.length = lo) (hx : x < 65536) (hlo : lo + 2 ≤ N) (hm : 2 ≤ m) :
    Calls Tryz.prog 40 #[.agg #[], .slice (some ⟨g, lo, none⟩) m c, .int .u16 x] w fun e w' => e = .returned (.tuple #[]) ∧ Blk w' g 5 (bc (fill N (d ++ be2 x))) ∧ Only g w w' := by
  have hl := fill_length N d (by omega)
  have := bufP16 g lo m c (fill N d) x w hb (by omega) hx (by omega) hm
  rw [fill_put N lo d _ hd (by rw [be2_length]; omega)] at this
  exact this
theorem run_makeZ (n : Nat) (hn : n ≤ 140737488355328) (w : World) (L : Int) (hL : L = n) : (Instr.makeSlice 28 (.int .i64 L) (.int .i64 L)).run Tryz.prog w = .ok (.slice (some ⟨w.heap.size, 0, none⟩) n n) (w.alloc (.cells (bc (fill n [])).toArray 5)) := by
  subst hL
  rw [fill_nil, bc_zerosB]
  exact run_makeN 28 5 (.int .u8 0) 1 Tryz.underlying28 Tryz.info5 rfl _ _ n (by omega) (by omega) w
end Go.Proofs.YtdpmbchamefkmaaGreatDoor
