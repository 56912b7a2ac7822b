/-
The texts of a chunk of user data and of one that moves the number on.
-/
import Derived.Test.YtdpmbchamefkmaaGreatDoorPkt0
import Derived.Test.YtdpmbchamefkmaaGreatDoorSack0
namespace Go.Proofs.YtdpmbchamefkmaaGreatDoor
open Go.RowKit

/-! ### what is read, behind a change elsewhere -/
theorem cell_same {w w' : World} {p : Addr} {u : Value} (hk : w'.heap[p.block]? = w.heap[p.block]?) (h : w.cell? p = some u) : w'.cell? p = some u := by
  unfold World.cell? at h ⊢
  rw [hk]; exact h
theorem RdB.same {w w' : World} {v : Value} {l : List UInt8} (h : RdB w v l) (hk : ∀ k, k < w.heap.size → w'.heap[k]? = w.heap[k]?) : RdB w' v l := by
  refine ⟨h.1, ?_⟩
  rcases h.2 with h2 | ⟨g, o, c, hv, hc, hcell⟩
  · exact .inl h2
  · exact .inr ⟨g, o, c, hv, hc, fun j u hu => cell_same (hk _ (cell_lt (hcell j u hu))) (hcell j u hu)⟩

/-! ### user data -/
def bN (b : Bool) (n : Nat) : Nat := if b then n else 0
def flagN (un be en im : Bool) : Nat := bN en 1 + bN be 2 + bN un 4 + bN im 8
theorem flagN_lt (un be en im : Bool) : flagN un be en im < 16 := by
  revert un be en im; decide

def dataB (tsn sid seq ppi : Nat) (user : List UInt8) : List UInt8 := be4 tsn ++ (be2 sid ++ (be2 seq ++ (be4 ppi ++ user)))
theorem dataB_length (tsn sid seq ppi : Nat) (user : List UInt8) : (dataB tsn sid seq ppi user).length = 12 + user.length := by
  simp only [dataB, List.length_append, be4_length, be2_length]; omega
theorem data_drop4 (tsn sid seq ppi : Nat) (user : List UInt8) : (dataB tsn sid seq ppi user).drop 4 = be2 sid ++ (be2 seq ++ (be4 ppi ++ user)) := by simp [dataB, be4]
theorem data_drop6 (tsn sid seq ppi : Nat) (user : List UInt8) : (dataB tsn sid seq ppi user).drop 6 = be2 seq ++ (be4 ppi ++ user) := by simp [dataB, be4, be2]
theorem data_drop8 (tsn sid seq ppi : Nat) (user : List UInt8) : (dataB tsn sid seq ppi user).drop 8 = be4 ppi ++ user := by simp [dataB, be4, be2]
theorem data_drop12 (tsn sid seq ppi : Nat) (user : List UInt8) : (dataB tsn sid seq ppi user).drop 12 = user := by simp [dataB, be4, be2]

def KnownData (l : List UInt8) : Prop := ∃ un be en im tsn sid seq ppi user, l = chunkB 0 (flagN un be en im) (dataB tsn sid seq ppi user) ∧ tsn < 4294967296 ∧ sid < 65536 ∧ seq < 65536 ∧ ppi < 4294967296 ∧ user.length ≤ 5000

/-! ### moving on -/
def fwdB (tsn : Nat) (ss : List (Nat × Nat)) : List UInt8 := be4 tsn ++ (ss.map gapB).flatten
theorem fwdB_length (tsn : Nat) (ss : List (Nat × Nat)) : (fwdB tsn ss).length = 4 + 4 * ss.length := by
  simp only [fwdB, List.length_append, be4_length, gaps_length]
theorem fwd_drop (tsn : Nat) (ss : List (Nat × Nat)) (k : Nat) (hk : k < ss.length) : ∃ r, (fwdB tsn ss).drop (4 + 4 * k) = be2 ss[k].1 ++ (be2 ss[k].2 ++ r) := by
  rw [← List.drop_drop, show (fwdB tsn ss).drop 4 = (ss.map gapB).flatten by simp [fwdB, be4], flat_drop gapB 4 gapB_length ss k hk]
  exact ⟨((ss.drop (k + 1)).map gapB).flatten, by simp only [gapB, List.append_assoc]⟩

def KnownFwd (l : List UInt8) : Prop := ∃ tsn ss, l = chunkB 192 0 (fwdB tsn ss) ∧ tsn < 4294967296 ∧ (∀ p ∈ ss, p.1 < 65536 ∧ p.2 < 65536) ∧ ss.length ≤ 1000
end Go.Proofs.YtdpmbchamefkmaaGreatDoor
