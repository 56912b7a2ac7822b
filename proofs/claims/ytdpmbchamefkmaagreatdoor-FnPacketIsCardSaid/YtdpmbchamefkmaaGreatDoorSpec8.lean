/-
The reference: a packet.
-/
import Derived.Test.YtdpmbchamefkmaaGreatDoorSpec7
import Derived.Test.YtdpmbchamefkmaaGreatDoorPkt1
namespace Go.Proofs.YtdpmbchamefkmaaGreatDoor
open Go.RowKit

theorem bare_pack (src dst tag s : Nat) (ls : List (List UInt8)) : bareB (packB src dst tag s ls) = packB src dst tag 0 ls := by
  simp [bareB, packB, hdB, be2, be4, le4, z4]

/-- copy(own[off:], v) -/
theorem wpl_copyO {w : World} {ops : Array Oper} {rest : List Oper} {o : Oper} {a : Act} {Q : Exit → Act → World → Prop} (hg : o.guard = none) (d s : Operand)
    (ho : o.op = .call { callee := .builtin .copy, args := #[d, s], argTypes := #[28, 28] }) (B g n cap off m c : Nat) (cur : List UInt8) (v : Value) (l : List UInt8) (hd : a.eval d = .slice (some ⟨g, off, none⟩) m c) (hs : a.eval s = v)
    (hown : OwnB w B (.slice (some ⟨g, 0, none⟩) n cap) cur) (hr : RdB w v l) (hm : l.length ≤ m) (hfit : off + l.length ≤ cur.length) (hl : 0 < l.length)
    (h : ∀ w', OwnB w' B (.slice (some ⟨g, 0, none⟩) n cap) (putL cur off l) → Only g w w' → wpList Tryz.prog ops Q rest (a.put o.dst (.int .i64 (l.length : Nat))) w') : wpList Tryz.prog ops Q (o :: rest) a w := by
  obtain ⟨g', o', c', rfl, _, hcell⟩ := hr.at hl
  obtain ⟨h1, h2 | ⟨g2, cap2, cs, hv, hB, hc, hnc, hmx, hsz, htake⟩⟩ := hown
  · simp at h2
  simp only [Value.slice.injEq, Option.some.injEq, Addr.mk.injEq, and_true] at hv
  obtain ⟨rfl, hn, rfl⟩ := hv
  rw [Nat.mul_one] at hsz htake
  have hcs : cs.toList.length = cap := by simpa using hsz
  refine wpl_val hg _ _ ?_ (h (w.setRow g (cs.toList.take off ++ bc l ++ cs.toList.drop (off + (bc l).length)).toArray) ?_ (Only.setRow _ _ _))
  · have hrun := run_copy_row (P := Tryz.prog) w 28 28 o.type 5 g off m c ⟨g', o', none⟩ l.length c' cs 5 (bc l) Tryz.underlying28 Tryz.size5 hc (by rw [bc_length]; exact (Nat.min_eq_left hm).symm)
      (by
        intro j u hj
        have hjl : j < l.length := by have := (List.getElem?_eq_some_iff.1 hj).1; rwa [bc_length] at this
        have h2 := bc_get l j l[j] (List.getElem?_eq_getElem hjl)
        rw [h2] at hj
        cases hj
        have h3 := hcell j _ (List.getElem?_eq_getElem hjl)
        by_cases hj0 : j = 0
        · subst hj0; simpa [Addr.add] using h3
        · simpa [Addr.add, hj0] using h3)
      (by rw [bc_length]; omega) (bc_one l)
    unfold execOp
    rw [ho]
    simp only [List.append_assoc, bc_length] at hrun ⊢
    simp [resolve, invoke, builtin, hd, hs, hrun, Result.andThen, goInt]
  · have hst := setRow_heap w g cs (cs.toList.take off ++ bc l ++ cs.toList.drop (off + (bc l).length)).toArray 5 (0, 0) hc
    have hpl := putL_length cur off l hfit
    refine ⟨by simp [bc_length], .inr ⟨g, cap, _, by rw [hpl, ← hn], hB, hst, by omega, hmx, ?_, ?_⟩⟩
    · simp [bc_length]; omega
    · rw [hpl, Nat.mul_one]
      have hcur : cs.toList.take off = bc (cur.take off) := by rw [← bc_take, ← htake, List.take_take, Nat.min_eq_left (by omega)]
      rw [hcur, bc_length]
      have hdr : (cs.toList.drop (off + l.length)).take (cur.length - (off + l.length)) = bc (cur.drop (off + l.length)) := by
        rw [← bc_drop, ← htake, List.drop_take]
      have hlA : (bc (cur.take off)).length = off := by rw [bc_length, List.length_take]; omega
      obtain ⟨k, hk⟩ : ∃ k, k = cur.length - (off + l.length) := ⟨_, rfl⟩
      rw [← hk] at hdr
      have hn2 : cur.length = (bc (cur.take off)).length + ((bc l).length + k) := by rw [hlA, bc_length]; omega
      simp only [List.toList_toArray]
      rw [List.append_assoc, hn2, List.take_length_add_append, List.take_length_add_append, hdr]
      simp [putL, bc_append]

theorem cutown (g lo m n c : Nat) (L : Int) (hL : L = lo) (hn : lo + m = n) (hlo : 0 < lo) (hm : 0 < m) (hc : n ≤ c) (w : World) (kl : IntKind) :
    (Instr.slice 28 (.slice (some ⟨g, 0, none⟩) n c) (some (.int kl L)) none none).run Tryz.prog w = .ok (.slice (some ⟨g, lo, none⟩) m (c - lo)) w := by
  subst hL hn
  obtain ⟨i, hi1, hi2⟩ := Option.map_eq_some_iff.1 Tryz.size5
  simp [Instr.slice, run_underlying Tryz.underlying28, Instr.sliceBounds, Instr.sliceBound, asIntOf, sizeOf, typeInfo, hi1, hi2, Addr.add, (show ¬ c = lo by omega), (show ¬ lo = 0 by omega)]
end Go.Proofs.YtdpmbchamefkmaaGreatDoor
