/-
Texts handed out: a row of one's own of texts of one's own.
-/
import Derived.Test.YtdpmbchamefkmaaGreatDoorPkt0
namespace Go.Proofs.YtdpmbchamefkmaaGreatDoor
open Go.RowKit

theorem own_block {w w' : World} {base size n : Nat} {e : TypeId} {v : Value} {xs : List Value} (h : w.ownsRow base e size v n xs) (hk : ∀ g, v.ownBlock = some g → w'.heap[g]? = w.heap[g]?) : w'.ownsRow base e size v n xs := by
  refine ⟨h.1, ?_⟩
  rcases h.2 with hn | ⟨g, cap, cur, rfl, hb, hg, rest⟩
  · exact .inl hn
  · exact .inr ⟨g, cap, cur, rfl, hb, (hk g rfl).trans hg, rest⟩

structure Outs (S : Nat) (w : World) (v : Value) (outs : List Value) (ls : List (List UInt8)) : Prop where
  own : w.ownsRow S 28 1 v outs.length outs
  len : ls.length = outs.length
  each : ∀ (i : Nat) (u : Value) (l : List UInt8), outs[i]? = some u → ls[i]? = some l → ∃ g, u = .slice (some ⟨g, 0, none⟩) l.length l.length ∧ S ≤ g ∧ Blk w g 5 (bc l) ∧ v.ownBlock ≠ some g
  small : ∀ l ∈ ls, l.length ≤ 140737488355328

theorem Outs.nil (S : Nat) (w : World) : Outs S w (.slice none 0 0) [] [] := ⟨World.ownsRow_nil _ _ _ _, rfl, by simp, by simp⟩
theorem Outs.same {S : Nat} {w w' : World} {v : Value} {outs : List Value} {ls : List (List UInt8)} (h : Outs S w v outs ls) (hk : ∀ k, S ≤ k → k < w.heap.size → w'.heap[k]? = w.heap[k]?) : Outs S w' v outs ls :=
  ⟨own_block h.own fun g hg => have := h.own.lt g hg; hk g this.1 this.2, h.len, fun i u l h1 h2 => by
    obtain ⟨g, hu, hS, hb, hne⟩ := h.each i u l h1 h2
    exact ⟨g, hu, hS, (hk g hS hb.lt).trans hb, hne⟩, h.small⟩
theorem Outs.grow {S : Nat} {w w' : World} {v : Value} {outs : List Value} {ls : List (List UInt8)} (h : Outs S w v outs ls) (hg : Grow w w') : Outs S w' v outs ls := h.same fun k _ hk => hg.block k hk
theorem Outs.within {S lo hi : Nat} {w w' : World} {v : Value} {outs : List Value} {ls : List (List UInt8)} (h : Outs S w v outs ls) (hw : Within lo hi w w') (hi' : hi ≤ S) : Outs S w' v outs ls := h.same fun k hS hk => hw.block k hk (by omega)
theorem Outs.rds {S : Nat} {w : World} {v : Value} {outs : List Value} {ls : List (List UInt8)} (h : Outs S w v outs ls) : RdBs w v ls := by
  refine ⟨outs, by rw [h.len]; exact Rd.of_own h.own, fun j l hl => ?_⟩
  have hj : j < outs.length := by rw [← h.len]; exact (List.getElem?_eq_some_iff.1 hl).1
  obtain ⟨g, hu, hS, hb, _⟩ := h.each j outs[j] l (List.getElem?_eq_getElem hj) hl
  refine ⟨outs[j], List.getElem?_eq_getElem hj, ?_⟩
  rw [hu]
  exact (OwnB.of_blk hb (Nat.zero_le _) (h.small l (List.mem_of_getElem? hl))).rd
theorem Outs.push {S : Nat} {w w2 : World} {v v' : Value} {outs : List Value} {ls : List (List UInt8)} (h : Outs S w v outs ls) (hg : w.grownBy w2 v.ownBlock) (g : Nat) (l : List UInt8)
    (hown : w2.ownsRow S 28 1 v' (outs.length + 1) (outs ++ [.slice (some ⟨g, 0, none⟩) l.length l.length])) (hblk : ∀ b, v'.ownBlock = some b → v.ownBlock = some b ∨ w.heap.size ≤ b) (hS : S ≤ g) (hb : Blk w g 5 (bc l)) (hne : v.ownBlock ≠ some g) (hl : l.length ≤ 140737488355328) :
    Outs S w2 v' (outs ++ [.slice (some ⟨g, 0, none⟩) l.length l.length]) (ls ++ [l]) := by
  have hk : ∀ b T cs, Blk w b T cs → v.ownBlock ≠ some b → Blk w2 b T cs ∧ v'.ownBlock ≠ some b := fun b T cs hb hne =>
    ⟨blk_grown hb hg hne, fun he => by
      rcases hblk b he with h | h
      · exact hne h
      · have := hb.lt; omega⟩
  refine ⟨by simpa using hown, by simp [h.len], fun i u l' h1 h2 => ?_, ?_⟩
  · rcases Nat.lt_or_ge i outs.length with hi | hi
    · rw [List.getElem?_append_left hi] at h1
      rw [List.getElem?_append_left (by rw [h.len]; exact hi)] at h2
      obtain ⟨g', hu, hS', hb', hne'⟩ := h.each i u l' h1 h2
      exact ⟨g', hu, hS', (hk g' _ _ hb' hne').1, (hk g' _ _ hb' hne').2⟩
    · have hie : i = outs.length := by
        have := (List.getElem?_eq_some_iff.1 h1).1
        simp at this; omega
      subst hie
      rw [List.getElem?_append_right (Nat.le_refl _), Nat.sub_self] at h1
      rw [List.getElem?_append_right (by rw [h.len]; exact Nat.le_refl _), h.len, Nat.sub_self] at h2
      simp at h1 h2
      subst h1; subst h2
      exact ⟨g, rfl, hS, (hk g _ _ hb hne).1, (hk g _ _ hb hne).2⟩
  · intro l' hl'
    rcases List.mem_append.1 hl' with h' | h'
    · exact h.small l' h'
    · simp at h'; subst h'; exact hl
end Go.Proofs.YtdpmbchamefkmaaGreatDoor
