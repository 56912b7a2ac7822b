/-
Numbers written in bytes of the call's own.
-/
import Derived.Test.YtdpmbchamefkmaaGreatDoorHeap
namespace Go.Proofs.YtdpmbchamefkmaaGreatDoor
open Go.RowKit

theorem putL_nil (l : List UInt8) (o : Nat) : putL l o [] = l := by simp [putL]

theorem putL_set (l : List UInt8) (o : Nat) (b : UInt8) (bs : List UInt8) (h : o < l.length) : putL (l.set o b) (o + 1) bs = putL l o (b :: bs) := by
  unfold putL
  have h1 : (l.set o b).take (o + 1) = l.take o ++ [b] := by
    rw [List.take_succ_eq_append_getElem (by simpa using h)]
    congr 1
    · rw [List.take_set_of_le (Nat.le_refl _)]
    · simp
  have h2 : (l.set o b).drop (o + 1 + bs.length) = l.drop (o + (b :: bs).length) := by
    rw [List.drop_set_of_lt (by omega)]
    congr 1
    simp; omega
  rw [h1, h2]
  simp

theorem own_len {w : World} {B n cap : Nat} {a : Addr} {l : List UInt8} (h : OwnB w B (.slice (some a) n cap) l) : n = l.length := by
  rcases h.2 with ⟨h', _⟩ | ⟨g', cap', cur, h', _⟩
  · simp at h'
  · simp only [Value.slice.injEq] at h'
    exact h'.2.1

/-- A store into bytes of the call's own. -/
theorem own_set {w : World} {B g n cap : Nat} {l : List UInt8} (h : OwnB w B (.slice (some ⟨g, 0, none⟩) n cap) l) (j : Nat) (b : UInt8) (u : Value) (hu : u = .int .u8 b.toNat) :
    OwnB (w.setCell ⟨g, j, none⟩ u) B (.slice (some ⟨g, 0, none⟩) n cap) (l.set j b) := by
  obtain rfl := own_len h
  subst hu
  have := (World.ownsRow.stored h j (.int .u8 b.toNat)).1
  unfold OwnB
  rw [List.length_set]
  have he : bc (l.set j b) = (bc l).set j (.int .u8 b.toNat) := by simp [bc, Lib.byteCells, List.map_set]
  rw [he]
  exact this

theorem own_cell {w : World} {B g n cap : Nat} {l : List UInt8} (h : OwnB w B (.slice (some ⟨g, 0, none⟩) n cap) l) (j : Nat) (hj : j < l.length) : w.cell? ⟨g, j, none⟩ = some (.int .u8 l[j].toNat) := by
  obtain rfl := own_len h
  rw [World.ownsRow.cellAt h j (by omega)]
  exact bc_get l j l[j] (List.getElem?_eq_getElem hj)

theorem own_free {w : World} {B g n cap : Nat} {l : List UInt8} (h : OwnB w B (.slice (some ⟨g, 0, none⟩) n cap) l) (j : Nat) : w.frozen? ⟨g, j, none⟩ = false := by
  obtain rfl := own_len h
  exact World.ownsRow.frozenAt h j

theorem own_lt {w : World} {B g n cap : Nat} {l : List UInt8} (h : OwnB w B (.slice (some ⟨g, 0, none⟩) n cap) l) : g < w.heap.size ∧ B ≤ g := by
  have := World.ownsRow.lt h g rfl
  exact ⟨this.2, this.1⟩

def le4 (n : Nat) : List UInt8 := [UInt8.ofNat n, UInt8.ofNat (n / 256), UInt8.ofNat (n / 65536), UInt8.ofNat (n / 16777216)]

set_option maxRecDepth 20000 in
set_option maxHeartbeats 1000000 in
theorem beP32_any (g n cap lo m c : Nat) (l : List UInt8) (B x : Nat) (w : World) (ho : OwnB w B (.slice (some ⟨g, 0, none⟩) n cap) l) (hx : x < 4294967296) (hlo : lo + 4 ≤ l.length) (hm : 4 ≤ m) :
    Calls Tryz.prog 41 #[.agg #[], .slice (some ⟨g, lo, none⟩) m c, .int .u32 x] w fun e w' => e = .returned (.tuple #[]) ∧ OwnB w' B (.slice (some ⟨g, 0, none⟩) n cap) (putL l lo (be4 x)) ∧ Only g w w' := by
  have n0 : 0 < m := by omega
  have n1 : (1 : Int) < (m : Int) := by omega
  have n2 : (2 : Int) < (m : Int) := by omega
  have n3 : (3 : Int) < (m : Int) := by omega
  have ho' := ho.grow (grow_alloc w (.cells #[] 136))
  have c0 := own_cell ho' (lo) (by omega)
  have f0 := own_free ho' (lo)
  have c1 := own_cell ho' (lo + 1) (by omega)
  have f1 := own_free ho' (lo + 1)
  have c2 := own_cell ho' (lo + 2) (by omega)
  have f2 := own_free ho' (lo + 2)
  have c3 := own_cell ho' (lo + 3) (by omega)
  have f3 := own_free ho' (lo + 3)
  clear ho
  go_enter Tryz.func41, Tryz.ntmps41
  go_wp2
  go_end0
  refine ⟨rfl, ?_, ?_⟩
  · have e : ((((l.set (lo) (UInt8.ofNat (x / 16777216))).set (lo + 1) (UInt8.ofNat (x / 65536))).set (lo + 2) (UInt8.ofNat (x / 256))).set (lo + 3) (UInt8.ofNat x)) = putL l lo (be4 x) := by
      rw [← putL_nil ((((l.set (lo) (UInt8.ofNat (x / 16777216))).set (lo + 1) (UInt8.ofNat (x / 65536))).set (lo + 2) (UInt8.ofNat (x / 256))).set (lo + 3) (UInt8.ofNat x)) (lo + 4)]
      rw [show lo + 4 = lo + 3 + 1 from rfl, putL_set _ (lo + 3) _ _ (by first | omega | (simp only [List.length_set]; omega))]
      rw [show lo + 3 = lo + 2 + 1 from rfl, putL_set _ (lo + 2) _ _ (by first | omega | (simp only [List.length_set]; omega))]
      rw [show lo + 2 = lo + 1 + 1 from rfl, putL_set _ (lo + 1) _ _ (by first | omega | (simp only [List.length_set]; omega))]
      rw [putL_set _ (lo) _ _ (by first | omega | (simp only [List.length_set]; omega))]
      rfl
    rw [← e]
    exact own_set (own_set (own_set (own_set ho' (lo) _ _ (byte_val _ _ (by omega))) (lo + 1) _ _ (byte_val _ _ (by omega))) (lo + 2) _ _ (byte_val _ _ (by omega))) (lo + 3) _ _ (byte_val _ _ (by omega))
  · exact ((((Only.of_grow (grow_alloc w _)).trans (Only.setCell g _ _ _)).trans (Only.setCell g _ _ _)).trans (Only.setCell g _ _ _)).trans (Only.setCell g _ _ _)

set_option maxRecDepth 20000 in
set_option maxHeartbeats 1000000 in
theorem beP16_any (g n cap lo m c : Nat) (l : List UInt8) (B x : Nat) (w : World) (ho : OwnB w B (.slice (some ⟨g, 0, none⟩) n cap) l) (hx : x < 65536) (hlo : lo + 2 ≤ l.length) (hm : 2 ≤ m) :
    Calls Tryz.prog 40 #[.agg #[], .slice (some ⟨g, lo, none⟩) m c, .int .u16 x] w fun e w' => e = .returned (.tuple #[]) ∧ OwnB w' B (.slice (some ⟨g, 0, none⟩) n cap) (putL l lo (be2 x)) ∧ Only g w w' := by
  have n0 : 0 < m := by omega
  have n1 : (1 : Int) < (m : Int) := by omega
  have ho' := ho.grow (grow_alloc w (.cells #[] 136))
  have c0 := own_cell ho' (lo) (by omega)
  have f0 := own_free ho' (lo)
  have c1 := own_cell ho' (lo + 1) (by omega)
  have f1 := own_free ho' (lo + 1)
  clear ho
  go_enter Tryz.func40, Tryz.ntmps40
  go_wp2
  go_end0
  refine ⟨rfl, ?_, ?_⟩
  · have e : ((l.set (lo) (UInt8.ofNat (x / 256))).set (lo + 1) (UInt8.ofNat x)) = putL l lo (be2 x) := by
      rw [← putL_nil ((l.set (lo) (UInt8.ofNat (x / 256))).set (lo + 1) (UInt8.ofNat x)) (lo + 2)]
      rw [show lo + 2 = lo + 1 + 1 from rfl, putL_set _ (lo + 1) _ _ (by first | omega | (simp only [List.length_set]; omega))]
      rw [putL_set _ (lo) _ _ (by first | omega | (simp only [List.length_set]; omega))]
      rfl
    rw [← e]
    exact own_set (own_set ho' (lo) _ _ (byte_val _ _ (by omega))) (lo + 1) _ _ (byte_val _ _ (by omega))
  · exact ((Only.of_grow (grow_alloc w _)).trans (Only.setCell g _ _ _)).trans (Only.setCell g _ _ _)

set_option maxRecDepth 20000 in
set_option maxHeartbeats 1000000 in
theorem leP32_any (g n cap lo m c : Nat) (l : List UInt8) (B x : Nat) (w : World) (ho : OwnB w B (.slice (some ⟨g, 0, none⟩) n cap) l) (hx : x < 4294967296) (hlo : lo + 4 ≤ l.length) (hm : 4 ≤ m) :
    Calls Tryz.prog 42 #[.agg #[], .slice (some ⟨g, lo, none⟩) m c, .int .u32 x] w fun e w' => e = .returned (.tuple #[]) ∧ OwnB w' B (.slice (some ⟨g, 0, none⟩) n cap) (putL l lo (le4 x)) ∧ Only g w w' := by
  have n0 : 0 < m := by omega
  have n1 : (1 : Int) < (m : Int) := by omega
  have n2 : (2 : Int) < (m : Int) := by omega
  have n3 : (3 : Int) < (m : Int) := by omega
  have ho' := ho.grow (grow_alloc w (.cells #[] 135))
  have c0 := own_cell ho' (lo) (by omega)
  have f0 := own_free ho' (lo)
  have c1 := own_cell ho' (lo + 1) (by omega)
  have f1 := own_free ho' (lo + 1)
  have c2 := own_cell ho' (lo + 2) (by omega)
  have f2 := own_free ho' (lo + 2)
  have c3 := own_cell ho' (lo + 3) (by omega)
  have f3 := own_free ho' (lo + 3)
  clear ho
  go_enter Tryz.func42, Tryz.ntmps42
  go_wp2
  go_end0
  refine ⟨rfl, ?_, ?_⟩
  · have e : ((((l.set (lo) (UInt8.ofNat x)).set (lo + 1) (UInt8.ofNat (x / 256))).set (lo + 2) (UInt8.ofNat (x / 65536))).set (lo + 3) (UInt8.ofNat (x / 16777216))) = putL l lo (le4 x) := by
      rw [← putL_nil ((((l.set (lo) (UInt8.ofNat x)).set (lo + 1) (UInt8.ofNat (x / 256))).set (lo + 2) (UInt8.ofNat (x / 65536))).set (lo + 3) (UInt8.ofNat (x / 16777216))) (lo + 4)]
      rw [show lo + 4 = lo + 3 + 1 from rfl, putL_set _ (lo + 3) _ _ (by first | omega | (simp only [List.length_set]; omega))]
      rw [show lo + 3 = lo + 2 + 1 from rfl, putL_set _ (lo + 2) _ _ (by first | omega | (simp only [List.length_set]; omega))]
      rw [show lo + 2 = lo + 1 + 1 from rfl, putL_set _ (lo + 1) _ _ (by first | omega | (simp only [List.length_set]; omega))]
      rw [putL_set _ (lo) _ _ (by first | omega | (simp only [List.length_set]; omega))]
      rfl
    rw [← e]
    exact own_set (own_set (own_set (own_set ho' (lo) _ _ (byte_val _ _ (by omega))) (lo + 1) _ _ (byte_val _ _ (by omega))) (lo + 2) _ _ (byte_val _ _ (by omega))) (lo + 3) _ _ (byte_val _ _ (by omega))
  · exact ((((Only.of_grow (grow_alloc w _)).trans (Only.setCell g _ _ _)).trans (Only.setCell g _ _ _)).trans (Only.setCell g _ _ _)).trans (Only.setCell g _ _ _)

end Go.Proofs.YtdpmbchamefkmaaGreatDoor
