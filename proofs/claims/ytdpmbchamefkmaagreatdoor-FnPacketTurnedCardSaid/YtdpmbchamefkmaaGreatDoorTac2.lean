/-
More of the small tactics.
-/
import Derived.Test.YtdpmbchamefkmaaGreatDoorSack0
namespace Go.Proofs.YtdpmbchamefkmaaGreatDoor
open Go.RowKit

/-- a new block is nobody's -/
theorem Only.new {b g : Nat} {w w1 w2 : World} (h : Only b w w1) (k : Only g w1 w2) (hg : w.heap.size ≤ g) : Only b w w2 :=
  ⟨k.os.trans h.os, k.tape.trans h.tape, k.output.trans h.output, Nat.le_trans h.size k.size, fun j hj hne => (k.block j (Nat.lt_of_lt_of_le hj h.size) (by simp; omega)).trans (h.block j hj hne)⟩
theorem Only.grow {b : Nat} {w w1 w2 : World} (h : Only b w w1) (k : Grow w1 w2) : Only b w w2 := h.trans (Only.of_grow k)

/-- a number read out of a text that came in -/
theorem rdU32 {w1 : World} {v : Value} {l : List UInt8} (hv : RdB w1 v l) (lo m x : Nat) (r : List UInt8) (L : Int) (hL : L = lo) (hm : lo + m = l.length) (hx : x < 4294967296) (hd : l.drop lo = be4 x ++ r) :
    ∃ a c, (∀ w kl, (Instr.slice 28 v (some (.int kl L)) none none).run Tryz.prog w = .ok (.slice a m c) w) ∧ ∀ w', Grow w1 w' → Calls Tryz.prog 38 #[.agg #[], .slice a m c] w' fun e w'' => e = .returned (.int .u32 x) ∧ Grow w' w'' := by
  obtain ⟨a, c, h1, h2⟩ := cut_l hv lo m L hL hm
  refine ⟨a, c, h1, fun w' h => ?_⟩
  have h3 := beU32_any _ _ w' ((h2 w1 hv).grow h) (by rw [hd]; simp [be4])
  rw [hd, u32of_be4 x hx] at h3
  exact h3
theorem rdU16 {w1 : World} {v : Value} {l : List UInt8} (hv : RdB w1 v l) (lo m x : Nat) (r : List UInt8) (L : Int) (hL : L = lo) (hm : lo + m = l.length) (hx : x < 65536) (hd : l.drop lo = be2 x ++ r) :
    ∃ a c, (∀ w kl, (Instr.slice 28 v (some (.int kl L)) none none).run Tryz.prog w = .ok (.slice a m c) w) ∧ ∀ w', Grow w1 w' → Calls Tryz.prog 37 #[.agg #[], .slice a m c] w' fun e w'' => e = .returned (.int .u16 x) ∧ Grow w' w'' := by
  obtain ⟨a, c, h1, h2⟩ := cut_l hv lo m L hL hm
  refine ⟨a, c, h1, fun w' h => ?_⟩
  have h3 := beU16_any _ _ w' ((h2 w1 hv).grow h) (by rw [hd]; simp [be2])
  rw [hd, u16of_be2 x hx] at h3
  exact h3

/-- a new row as a step of a calm region -/
def NewRow (B T n : Nat) (cs : List Value) (u : Value) (w : World) : Prop := ∃ g, u = .slice (some ⟨g, 0, none⟩) n n ∧ B ≤ g ∧ Blk w g T cs
theorem NewRow.stable (B T n : Nat) (cs : List Value) : Stable (NewRow B T n cs) := fun _ _ _ ⟨g, h1, h2, h3⟩ hg => ⟨g, h1, h2, h3.grow hg⟩
end Go.Proofs.YtdpmbchamefkmaaGreatDoor
