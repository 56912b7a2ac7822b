/-
A chunk's header read.
-/
import Derived.Test.YtdpmbchamefkmaaGreatDoorHead
namespace Go.Proofs.YtdpmbchamefkmaaGreatDoor
open Go.RowKit

theorem u16of_be2 (x : Nat) (hx : x < 65536) (r : List UInt8) : u16of (be2 x ++ r) = x := by
  simp only [be2, List.cons_append, List.nil_append, u16of, UInt8.toNat_ofNat']
  omega

theorem cell_lt {w : World} {a : Addr} {u : Value} (h : w.cell? a = some u) : a.block < w.heap.size := by
  unfold World.cell? at h
  rcases Nat.lt_or_ge a.block w.heap.size with h1 | h1
  · exact h1
  · rw [Array.getElem?_eq_none (by omega)] at h
    simp at h

set_option maxRecDepth 20000 in
set_option maxHeartbeats 1000000 in
theorem headUnmarshal_any (b T typ flags : Nat) (c0 c1 c2 : Value) (tl : List Value) (v : Value) (val rest : List UInt8) (w1 w : World) (hv : RdB w1 v (chunkB typ flags val ++ rest)) (hg : Grow w1 w) (hle : w1.heap.size ≤ b)
    (hb : Blk w b T (c0 :: c1 :: c2 :: tl)) (ht : typ < 256) (hf : flags < 256) (hval : val.length < 65532) (hrest : rest.length ≤ 140737488000000) (hz : rest.length < 4 → ∀ x ∈ rest, x = 0) :
    Calls Tryz.prog 70 #[.pointer (some ⟨b, 0, none⟩), v] w fun e w' => ∃ ao c, e = .returned .nilIface ∧ RdB w1 (.slice ao val.length c) val ∧ Blk w' b T (.int .u8 typ :: .int .u8 flags :: .slice ao val.length c :: tl) ∧ Only b w w' := by
  have hlen : (chunkB typ flags val ++ rest).length = 4 + val.length + rest.length := by simp [chunkB_length]
  obtain ⟨ad, cd, hcut, hcutr⟩ := cut_lh hv 4 (4 + val.length) val.length 4 (4 + (val.length : Int)) rfl (by simp) rfl (by omega)
  have hraw := hcutr w1 hv
  rw [show ((chunkB typ flags val ++ rest).take (4 + val.length)).drop 4 = val by
    rw [← chunkB_length typ flags val, List.take_left']
    · simp [chunkB, be2]
    · rfl] at hraw
  obtain ⟨a2, c2', hcut2, hcut2r⟩ := cut_l hv 2 (2 + val.length + rest.length) 2 rfl (by omega)
  have hrd2 := hcut2r w1 hv
  have hu : u16of ((chunkB typ flags val ++ rest).drop 2) = 4 + val.length := by
    rw [show (chunkB typ flags val ++ rest).drop 2 = be2 (4 + val.length) ++ (val ++ rest) by simp [chunkB]]
    exact u16of_be2 _ (by omega) _
  have hcall := fun w' (h : Grow w1 w') => beU16_any _ _ w' (hrd2.grow h) (by rw [List.length_drop]; omega)
  rw [hu] at hcall
  obtain ⟨g, o, c, hv1, hcap, hcell⟩ := hv.at (by omega)
  have q0 : ∀ w', Grow w1 w' → w'.cell? ⟨g, o, none⟩ = some (.int .u8 typ) := fun w' h => by
    have := cell_grow h (hcell 0 (UInt8.ofNat typ) (by simp [chunkB]))
    rw [← byte_val typ typ (by omega)] at this
    exact this
  have q1 : ∀ w', Grow w1 w' → w'.cell? ⟨g, o + 1, none⟩ = some (.int .u8 flags) := fun w' h => by
    have := cell_grow h (hcell 1 (UInt8.ofNat flags) (by simp [chunkB]))
    rw [← byte_val flags flags (by omega)] at this
    exact this
  have hgb : g < w1.heap.size := cell_lt (q0 w1 (Grow.refl _))
  have hne : g ≠ b := by omega
  have qr : ∀ (j : Nat), j < rest.length → rest.length < 4 → ∀ w', Grow w1 w' → w'.cell? ⟨g, o + (4 + val.length + j), none⟩ = some (.int .u8 0) := fun j hj h4 w' h => by
    have := cell_grow h (hcell (4 + val.length + j) rest[j] (by rw [List.getElem?_append_right (by rw [chunkB_length]; omega), chunkB_length, Nat.add_sub_cancel_left]; exact List.getElem?_eq_getElem hj))
    rw [hz h4 _ (List.getElem_mem hj)] at this
    exact this
  obtain ⟨L, hL⟩ : ∃ L, L = 4 + val.length + rest.length := ⟨_, rfl⟩
  rw [hlen, ← hL] at hv1 hcap
  have n3 : IntKind.i64.wrap ((L : Int) - (4 + (val.length : Int))) = (rest.length : Int) := by rw [IntKind.wrap_i64]; omega
  have l4 : (4 : Int) ≤ (L : Int) := by omega
  have l0 : (0 : Int) < (L : Int) := by omega
  have l0' : 0 < L := by omega
  have l1 : (1 : Int) < (L : Int) := by omega
  have HLL := Lib.hid hL
  have HL := Lib.hid hlen
  subst hv1
  clear hL hlen hcutr hcut2r hu hcell hz
  have f0 := hb.free 0
  have f1 := hb.free 1
  have k0 := hb.cell 0 _ rfl
  have k1 := hb.cell 1 _ rfl
  go_enter Tryz.func70, Tryz.ntmps70
  go_wp2
  have hb2 := (hb.set 0 (.int .u8 typ)).set 1 (.int .u8 flags)
  refine wp_at (fun w2 => Blk w2 b T (.int .u8 typ :: .int .u8 flags :: c2 :: tl) ∧ Only b w w2) ⟨hb2, (Only.setCell _ _ _ _).trans (Only.setCell _ _ _ _)⟩ ?_
  clear hb2 f0 k0 f1 k1 hb
  rintro w2 ⟨hb2, ho2⟩
  have hg2 : Grow w1 w2 := ho2.below hg hle
  obtain ⟨N, hN⟩ : ∃ N, N = 4 + val.length := ⟨_, rfl⟩
  have hNl : N < 65536 := by omega
  rw [← hN] at hcall
  have n1 : IntKind.u16.wrap ((N : Int) - 4) = ((val.length : Nat) : Int) := by rw [IntKind.wrap_u16]; omega
  have HN := Lib.hid hN
  clear hN
  (refine wp_region_calmK 4 66 Tryz.mixed rfl (by kernel_rfl) (fun T' hT => ?_); simp only [List.take_succ_cons, List.take_zero, List.drop_succ_cons, List.drop_zero] at hT ⊢)
  iterate 3 (apply calm_val (D' := []) (hD := rfl); (· intro wZ1 hwZ1; simp only [fillAll]; go_simp; exact ⟨rfl, Grow.refl _⟩); simp only [Act.put, List.setIfInBounds_toArray, List.set_cons_succ, List.set_cons_zero])
  apply calm_val (D' := []) (hD := rfl)
  · intro w3 hw3
    simp only [fillAll]
    go_simp
    refine ⟨Grow.refl _, (hcall w3 (hg2.trans (grow_drew hw3))).mono ?_⟩
    rintro e w4 ⟨rfl, hg4⟩
    exact ⟨_, rfl, rfl, hg4⟩
  simp only [Act.put, List.setIfInBounds_toArray, List.set_cons_succ, List.set_cons_zero]
  (intro w3 hw3; simp only [fillAll]; refine hT _ _ ?_; clear hT T')
  have hb3 := hb2.grow (grow_drew hw3)
  have ho3 : Only b w w3 := ho2.trans (Only.of_grow (grow_drew hw3))
  have hg3 := hg2.trans (grow_drew hw3)
  clear hw3 hcall hb2 ho2 hg2
  have n2 : IntKind.i64.wrap (4 + (val.length : Int)) = 4 + (val.length : Int) := by rw [IntKind.wrap_i64]; omega
  have f2 := hb3.free 2
  have k2 := hb3.cell 2 _ rfl
  by_cases h4 : rest.length < 4
  · have h4' : (rest.length : Int) < 4 := by omega
    go_wp2
    go_loop [8] (fun i => ∃ k : Nat, k ≤ rest.length ∧ i = .int .i64 k) (fun i => (intOf i).toNat)
    case atStart => exact ⟨rest.length, Nat.le_refl _, rfl⟩
    case round =>
      obtain ⟨k, hk, rfl⟩ := hrel
      by_cases hk0 : k = 0
      · subst hk0
        go_wp2
        go_ret
        exact ⟨rfl, ad, cd, hraw, hb3.set 2 _, ho3.trans (Only.setCell _ _ _ _)⟩
      · obtain ⟨k', rfl⟩ : ∃ k', k = k' + 1 := ⟨k - 1, by omega⟩
        have hc := qr k' (by omega) h4 w3 hg3
        have n5 : (4 + (val.length : Int) + (k' : Int)).toNat = 4 + val.length + k' := by omega
        have n6 : IntKind.i64.wrap (4 + (val.length : Int) + (k' : Int)) = 4 + (val.length : Int) + (k' : Int) := by rw [IntKind.wrap_i64]; omega
        have n7 : 4 + (val.length : Int) + (k' : Int) < (L : Int) := by rw [HLL.out]; omega
        have n8 : 0 ≤ 4 + (val.length : Int) + (k' : Int) := by omega
        have n9 : (0 : Int) < (k' : Int) + 1 := by omega
        go_wp2
        go_round
        case rel => exact ⟨k', by omega, by go_num⟩
        case measure => simp [intOf]
  · have h4' : ¬ (rest.length : Int) < 4 := by omega
    go_wp2
    go_ret
    exact ⟨rfl, ad, cd, hraw, hb3.set 2 _, ho3.trans (Only.setCell _ _ _ _)⟩
end Go.Proofs.YtdpmbchamefkmaaGreatDoor
