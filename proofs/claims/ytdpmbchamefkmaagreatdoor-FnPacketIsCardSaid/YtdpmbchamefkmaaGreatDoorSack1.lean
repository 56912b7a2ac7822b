/-
A selective acknowledgement read.
-/
import Derived.Test.YtdpmbchamefkmaaGreatDoorSack0
namespace Go.Proofs.YtdpmbchamefkmaaGreatDoor
open Go.RowKit

set_option maxRecDepth 100000 in
set_option maxHeartbeats 2000000 in
theorem sackUnmarshal_any (b tsn win : Nat) (gaps : List (Nat × Nat)) (dups : List Nat) (c0 c1 c2 c3 c4 c5 c6 : Value) (v : Value) (rest : List UInt8) (w1 w : World) (hv : RdB w1 v (chunkB 3 0 (sackB tsn win gaps dups) ++ rest))
    (hg : Grow w1 w) (hle : w1.heap.size ≤ b) (hb : Blk w b 108 [c0, c1, c2, c3, c4, c5, c6]) (htsn : tsn < 4294967296) (hwin : win < 4294967296) (hgaps : ∀ p ∈ gaps, p.1 < 65536 ∧ p.2 < 65536) (hdups : ∀ n ∈ dups, n < 4294967296)
    (hG : gaps.length ≤ 1000) (hD : dups.length ≤ 1000) (hrest : rest.length ≤ 140737488000000) (hz : rest.length < 4 → ∀ x ∈ rest, x = 0) :
    Calls Tryz.prog 112 #[.pointer (some ⟨b, 0, none⟩), v] w fun e w' => ∃ ra rc g1 g2, e = .returned .nilIface ∧ RdB w1 (.slice ra (sackB tsn win gaps dups).length rc) (sackB tsn win gaps dups) ∧ w.heap.size ≤ g1 ∧ w.heap.size ≤ g2 ∧
      Blk w' b 108 [.int .u8 3, .int .u8 0, .slice ra (sackB tsn win gaps dups).length rc, .int .u32 tsn, .int .u32 win, .slice (some ⟨g1, 0, none⟩) gaps.length gaps.length, .slice (some ⟨g2, 0, none⟩) dups.length dups.length] ∧
      Blk w' g1 242 (gapCells gaps) ∧ Blk w' g2 22 (dupCells dups) ∧ Only b w w' := by
  have hlen := sackB_length tsn win gaps dups
  have hc70 := headUnmarshal_any b 108 3 0 c0 c1 c2 [c3, c4, c5, c6] v (sackB tsn win gaps dups) rest w1 w hv hg hle hb (by omega) (by omega) (by omega) hrest hz
  obtain ⟨G, hGe⟩ : ∃ G, G = gaps.length := ⟨_, rfl⟩
  obtain ⟨D, hDe⟩ : ∃ D, D = dups.length := ⟨_, rfl⟩
  obtain ⟨N, hN⟩ : ∃ N, N = (sackB tsn win gaps dups).length := ⟨_, rfl⟩
  have hraws : ∀ (ra : Option Addr) (rc : Nat), RdB w1 (.slice ra (sackB tsn win gaps dups).length rc) (sackB tsn win gaps dups) → (sackB tsn win gaps dups).length = N := fun _ _ _ => hN.symm
  rw [← hN] at hc70 ⊢
  rw [← hN, ← hGe, ← hDe] at hlen
  rw [← hGe, ← hDe] 
  have hne : ((N : Int) == 12 + (4 * (G : Int) + 4 * (D : Int))) = true := by simp; omega
  have hN12 : ¬ (N : Int) < 12 := by omega
  have n1 : IntKind.i64.wrap (4 * (G : Int)) = 4 * (G : Int) := by rw [IntKind.wrap_i64]; omega
  have n2 : IntKind.i64.wrap (4 * (D : Int)) = 4 * (D : Int) := by rw [IntKind.wrap_i64]; omega
  have n3 : IntKind.i64.wrap (4 * (G : Int) + 4 * (D : Int)) = 4 * (G : Int) + 4 * (D : Int) := by rw [IntKind.wrap_i64]; omega
  have n4 : IntKind.i64.wrap (12 + (4 * (G : Int) + 4 * (D : Int))) = 12 + (4 * (G : Int) + 4 * (D : Int)) := by rw [IntKind.wrap_i64]; omega
  have HGe := Lib.hid hGe
  have HDe := Lib.hid hDe
  have HN := Lib.hid hN
  have HL := Lib.hid hlen
  have hG1 : G ≤ 1000 := by omega
  have hD1 : D ≤ 1000 := by omega
  clear hGe hDe hN hlen hraws hv hz
  go_enter Tryz.func112, Tryz.ntmps112
  go_wp2_with (go_loud (go_at_call 70; (with_reducible refine hc70.mono ?_); rintro e w2 ⟨ra, rc, rfl, hraw, hb2, ho2⟩; rw [show ((3 : Nat) : Int) = 3 from rfl, show ((0 : Nat) : Int) = 0 from rfl] at hb2; have k0 := hb2.cell 0 _ rfl; have k2 := hb2.cell 2 _ rfl))
  have hbw := hb
  clear k0 k2 hc70 hb
  have hg2 := ho2.below hg hle
  obtain ⟨a0, q0, cut0, call0⟩ := rdU32 hraw 0 N tsn _ 0 rfl (by rw [HN.out]; omega) htsn (by rw [List.drop_zero, sackB])
  obtain ⟨a4, q4, cut4, call4⟩ := rdU32 hraw 4 (N - 4) win _ 4 rfl (by rw [← HN.out]; omega) hwin (sack_drop4 _ _ _ _)
  obtain ⟨a8, q8, cut8, call8⟩ := rdU16 hraw 8 (N - 8) gaps.length _ 8 rfl (by rw [← HN.out]; omega) (by omega) (sack_drop8 _ _ _ _)
  obtain ⟨a10, q10, cut10, call10⟩ := rdU16 hraw 10 (N - 10) dups.length _ 10 rfl (by rw [← HN.out]; omega) (by omega) (sack_drop10 _ _ _ _)
  rw [← HGe.out] at call8
  rw [← HDe.out] at call10
  have hbl : b < w.heap.size := hbw.lt
  have e2 := fun w' (h : Grow w2.drew w') => (hb2.grow (grow_drew h)).cell 2 _ rfl
  have cl := fun w' (h : Grow w2.drew w') => call0 w' (hg2.trans (grow_drew h))
  (refine wp_region_calmK 11 170 Tryz.mixed rfl (by kernel_rfl) (fun T hT => ?_); simp only [List.take_succ_cons, List.take_zero, List.drop_succ_cons, List.drop_zero] at hT ⊢)
  iterate 8 (apply calm_val (D' := []) (hD := rfl); (· intro wZ1 hwZ1; simp only [fillAll]; go_simp; exact ⟨rfl, Grow.refl _⟩); simp only [Act.put, List.setIfInBounds_toArray, List.set_cons_succ, List.set_cons_zero])
  (apply calm_val (D' := []) (hD := rfl); (· intro wZ3 hwZ3; simp only [fillAll]; go_simp; refine ⟨Grow.refl _, (cl wZ3 hwZ3).mono ?_⟩; exact fun e wZ4 h => ⟨_, h.1, rfl, h.2⟩); simp only [Act.put, List.setIfInBounds_toArray, List.set_cons_succ, List.set_cons_zero])
  iterate 2 (apply calm_val (D' := []) (hD := rfl); (· intro wZ1 hwZ1; simp only [fillAll]; go_simp; exact ⟨rfl, Grow.refl _⟩); simp only [Act.put, List.setIfInBounds_toArray, List.set_cons_succ, List.set_cons_zero])
  (intro w3 hwQ; simp only [fillAll]; refine hT _ _ ?_; clear hT T)
  have hb3 := hb2.grow (grow_drew hwQ)
  have ho3 := ho2.grow (grow_drew hwQ)
  clear hwQ e2 cl cut0 call0
  have f := hb3.free 3
  have k := hb3.cell 3 _ rfl
  go_wp2
  refine wp_at (fun w' => Blk w' b 108 [.int .u8 3, .int .u8 0, .slice ra N rc, .int .u32 tsn, c4, c5, c6] ∧ Only b w w') ⟨hb3.set 3 (.int .u32 tsn), ho3.trans (Only.setCell _ _ _ _)⟩ ?_
  clear f k hb3 ho3 hb2 ho2 hg2
  rintro w4 ⟨hb4, ho4⟩
  have hg4 := ho4.below hg hle
  have e2 := fun w' (h : Grow w4.drew w') => (hb4.grow (grow_drew h)).cell 2 _ rfl
  have cl := fun w' (h : Grow w4.drew w') => call4 w' (hg4.trans (grow_drew h))
  (refine wp_region_calmK 11 170 Tryz.mixed rfl (by kernel_rfl) (fun T hT => ?_); simp only [List.take_succ_cons, List.take_zero, List.drop_succ_cons, List.drop_zero] at hT ⊢)
  iterate 8 (apply calm_val (D' := []) (hD := rfl); (· intro wZ1 hwZ1; simp only [fillAll]; go_simp; exact ⟨rfl, Grow.refl _⟩); simp only [Act.put, List.setIfInBounds_toArray, List.set_cons_succ, List.set_cons_zero])
  (apply calm_val (D' := []) (hD := rfl); (· intro wZ3 hwZ3; simp only [fillAll]; go_simp; refine ⟨Grow.refl _, (cl wZ3 hwZ3).mono ?_⟩; exact fun e wZ4 h => ⟨_, h.1, rfl, h.2⟩); simp only [Act.put, List.setIfInBounds_toArray, List.set_cons_succ, List.set_cons_zero])
  iterate 2 (apply calm_val (D' := []) (hD := rfl); (· intro wZ1 hwZ1; simp only [fillAll]; go_simp; exact ⟨rfl, Grow.refl _⟩); simp only [Act.put, List.setIfInBounds_toArray, List.set_cons_succ, List.set_cons_zero])
  (intro w5 hwQ; simp only [fillAll]; refine hT _ _ ?_; clear hT T)
  have hb5 := hb4.grow (grow_drew hwQ)
  have ho5 := ho4.grow (grow_drew hwQ)
  clear hwQ e2 cl cut4 call4
  have f := hb5.free 4
  have k := hb5.cell 4 _ rfl
  go_wp2
  refine wp_at (fun w' => Blk w' b 108 [.int .u8 3, .int .u8 0, .slice ra N rc, .int .u32 tsn, .int .u32 win, c5, c6] ∧ Only b w w') ⟨hb5.set 4 (.int .u32 win), ho5.trans (Only.setCell _ _ _ _)⟩ ?_
  clear f k hb5 ho5 hb4 ho4 hg4
  rintro w6 ⟨hb6, ho6⟩
  have hg6 := ho6.below hg hle
  have e2 := fun w' (h : Grow w6.drew w') => (hb6.grow (grow_drew h)).cell 2 _ rfl
  have cl := fun w' (h : Grow w6.drew w') => call8 w' (hg6.trans (grow_drew h))
  have hmk := fun w' => run_make106 G (by omega) w' G rfl
  have hsz : w.heap.size ≤ w6.heap.size := ho6.size
  (refine wp_region_calmK 12 170 Tryz.mixed rfl (by kernel_rfl) (fun T hT => ?_); simp only [List.take_succ_cons, List.take_zero, List.drop_succ_cons, List.drop_zero] at hT ⊢)
  iterate 8 (apply calm_val (D' := []) (hD := rfl); (· intro wZ1 hwZ1; simp only [fillAll]; go_simp; exact ⟨rfl, Grow.refl _⟩); simp only [Act.put, List.setIfInBounds_toArray, List.set_cons_succ, List.set_cons_zero])
  (apply calm_val (D' := []) (hD := rfl); (· intro wZ3 hwZ3; simp only [fillAll]; go_simp; refine ⟨Grow.refl _, (cl wZ3 hwZ3).mono ?_⟩; exact fun e wZ4 h => ⟨_, h.1, rfl, h.2⟩); simp only [Act.put, List.setIfInBounds_toArray, List.set_cons_succ, List.set_cons_zero])
  refine calm_new [] (NewRow w6.heap.size 242 G (List.replicate (2 * G) (.int .u16 0))) 63 rfl rfl (NewRow.stable _ _ _ _) (fun w3 hw3 => ?_) ?_
  · simp only [fillAll]
    go_simp
    exact ⟨⟨_, rfl, (grow_drew hw3).size, Blk.new _ _ _⟩, grow_alloc _ _⟩
  iterate 2 (apply calm_val (D' := []) (hD := rfl); (· intro wZ1 hwZ1; simp only [fillAll]; go_simp; exact ⟨rfl, Grow.refl _⟩); simp only [Act.put, List.setIfInBounds_toArray, List.set_cons_succ, List.set_cons_zero])
  intro w7 hwQ
  simp only [fillAll]
  rintro u ⟨g1, rfl, hlg1, hrg1⟩
  simp only [Act.put, List.setIfInBounds_toArray, List.set_cons_succ, List.set_cons_zero]
  refine hT _ _ ?_
  clear hT T
  have hwQ0 := hwQ
  have hb7 := hb6.grow (grow_drew hwQ)
  have ho7 := ho6.grow (grow_drew hwQ)
  have hg1b : g1 ≠ b := by omega
  clear hwQ e2 cl cut8 call8 hmk hsz
  have f := hb7.free 5
  have k := hb7.cell 5 _ rfl
  go_wp2
  refine wp_at (fun w' => Blk w' b 108 [.int .u8 3, .int .u8 0, .slice ra N rc, .int .u32 tsn, .int .u32 win, .slice (some ⟨g1, 0, none⟩) G G, c6] ∧ Blk w' g1 242 (List.replicate (2 * G) (.int .u16 0)) ∧ Only b w w') ⟨hb7.set 5 (.slice (some ⟨g1, 0, none⟩) G G), hrg1.set_other _ _ hg1b, ho7.trans (Only.setCell _ _ _ _)⟩ ?_
  have hlg1 : w.heap.size ≤ g1 := Nat.le_trans ho6.size hlg1
  clear f k hwQ0 hb7 ho7 hb6 ho6 hg6 hrg1 
  rintro w8 ⟨hb8, hrg1, ho8⟩
  have hg8 := ho8.below hg hle
  have e2 := fun w' (h : Grow w8.drew w') => (hb8.grow (grow_drew h)).cell 2 _ rfl
  have cl := fun w' (h : Grow w8.drew w') => call10 w' (hg8.trans (grow_drew h))
  have hmk := fun w' => run_make24 D (by omega) w' D rfl
  have hsz : w.heap.size ≤ w8.heap.size := ho8.size
  (refine wp_region_calmK 12 170 Tryz.mixed rfl (by kernel_rfl) (fun T hT => ?_); simp only [List.take_succ_cons, List.take_zero, List.drop_succ_cons, List.drop_zero] at hT ⊢)
  iterate 8 (apply calm_val (D' := []) (hD := rfl); (· intro wZ1 hwZ1; simp only [fillAll]; go_simp; exact ⟨rfl, Grow.refl _⟩); simp only [Act.put, List.setIfInBounds_toArray, List.set_cons_succ, List.set_cons_zero])
  (apply calm_val (D' := []) (hD := rfl); (· intro wZ3 hwZ3; simp only [fillAll]; go_simp; refine ⟨Grow.refl _, (cl wZ3 hwZ3).mono ?_⟩; exact fun e wZ4 h => ⟨_, h.1, rfl, h.2⟩); simp only [Act.put, List.setIfInBounds_toArray, List.set_cons_succ, List.set_cons_zero])
  refine calm_new [] (NewRow w8.heap.size 22 D (List.replicate D (.int .u32 0))) 75 rfl rfl (NewRow.stable _ _ _ _) (fun w3 hw3 => ?_) ?_
  · simp only [fillAll]
    go_simp
    exact ⟨⟨_, rfl, (grow_drew hw3).size, Blk.new _ _ _⟩, grow_alloc _ _⟩
  iterate 2 (apply calm_val (D' := []) (hD := rfl); (· intro wZ1 hwZ1; simp only [fillAll]; go_simp; exact ⟨rfl, Grow.refl _⟩); simp only [Act.put, List.setIfInBounds_toArray, List.set_cons_succ, List.set_cons_zero])
  intro w9 hwQ
  simp only [fillAll]
  rintro u ⟨g2, rfl, hlg2, hrg2⟩
  simp only [Act.put, List.setIfInBounds_toArray, List.set_cons_succ, List.set_cons_zero]
  refine hT _ _ ?_
  clear hT T
  have hwQ0 := hwQ
  have hb9 := hb8.grow (grow_drew hwQ)
  have ho9 := ho8.grow (grow_drew hwQ)
  have hg2b : g2 ≠ b := by omega
  have hgg : g1 ≠ g2 := by have := hrg1.lt; omega
  clear hwQ e2 cl cut10 call10 hmk hsz
  have f := hb9.free 6
  have k := hb9.cell 6 _ rfl
  go_wp2
  refine wp_at (fun w' => Blk w' b 108 [.int .u8 3, .int .u8 0, .slice ra N rc, .int .u32 tsn, .int .u32 win, .slice (some ⟨g1, 0, none⟩) G G, .slice (some ⟨g2, 0, none⟩) D D] ∧ Blk w' g2 22 (List.replicate D (.int .u32 0)) ∧ Blk w' g1 242 (List.replicate (2 * G) (.int .u16 0)) ∧ Only b w w') ⟨hb9.set 6 (.slice (some ⟨g2, 0, none⟩) D D), hrg2.set_other _ _ hg2b, (hrg1.grow (grow_drew hwQ0)).set_other _ _ hg1b, ho9.trans (Only.setCell _ _ _ _)⟩ ?_
  have hlg2 : w.heap.size ≤ g2 := Nat.le_trans ho8.size hlg2
  clear f k hwQ0 hb9 ho9 hb8 ho8 hg8 hrg2 hrg1
  rintro w10 ⟨hb10, hrg2, hrg1, ho10⟩
  have hg10 := ho10.below hg hle
  have e2 := fun w' (h : Grow w10.drew w') => (hb10.grow (grow_drew h)).cell 2 _ rfl
  have e5 := fun w' (h : Grow w10.drew w') => (hb10.grow (grow_drew h)).cell 5 _ rfl
  have e6 := fun w' (h : Grow w10.drew w') => (hb10.grow (grow_drew h)).cell 6 _ rfl
  (refine wp_region_calmK 20 170 Tryz.mixed rfl (by kernel_rfl) (fun T hT => ?_); simp only [List.take_succ_cons, List.take_zero, List.drop_succ_cons, List.drop_zero] at hT ⊢)
  iterate 20 (apply calm_val (D' := []) (hD := rfl); (· intro wZ1 hwZ1; simp only [fillAll]; go_simp; exact ⟨rfl, Grow.refl _⟩); simp only [Act.put, List.setIfInBounds_toArray, List.set_cons_succ, List.set_cons_zero])
  (intro w11 hw11; simp only [fillAll]; refine hT _ _ ?_; clear hT T)
  have hb11 := hb10.grow (grow_drew hw11)
  have hr1 := hrg1.grow (grow_drew hw11)
  have hr2 := hrg2.grow (grow_drew hw11)
  have ho11 := ho10.grow (grow_drew hw11)
  clear hw11 e2 e5 e6 hb10 hrg1 hrg2 ho10 hg10
  have k5 := hb11.cell 5 _ rfl
  go_wp2
  clear k5
  rw [HGe.out, ← gapMid_zero] at hr1
  rw [HDe.out, ← dupMid_zero] at hr2
  go_loopw [6, 105] (fun t i wr => ∃ k : Nat, k ≤ G ∧ i = .int .i64 k ∧ t = .int .i64 (12 + 4 * (k : Int)) ∧ Blk wr b 108 [.int .u8 3, .int .u8 0, .slice ra N rc, .int .u32 tsn, .int .u32 win, .slice (some ⟨g1, 0, none⟩) G G, .slice (some ⟨g2, 0, none⟩) D D] ∧ Blk wr g1 242 (gapMid gaps k) ∧ Blk wr g2 22 (dupMid dups 0) ∧ Only b w wr) (fun _ i _ => G - (intOf i).toNat)
  case atStart => exact ⟨0, by omega, rfl, rfl, hb11, hr1, hr2, ho11⟩
  case round =>
    clear hb11 hr1 hr2 ho11
    obtain ⟨k, hk, rfl, rfl, hbr, hr1, hr2, hor⟩ := hrel
    by_cases hlt : k < G
    · have hgr := hor.below hg hle
      have hkg : k < gaps.length := by rw [← HGe.out]; exact hlt
      obtain ⟨r, hdr⟩ := sack_gap tsn win gaps dups k hkg
      have hp := hgaps gaps[k] (List.getElem_mem hkg)
      have hdr2 : (sackB tsn win gaps dups).drop (12 + 4 * k + 2) = be2 gaps[k].2 ++ r := by rw [← List.drop_drop, hdr]; simp [be2]
      have hset := gapMid_set gaps k hkg
      have hml := gapMid_length gaps k (by omega)
      rw [← HGe.out] at hml
      obtain ⟨x, hx⟩ : ∃ x, x = gaps[k].1 := ⟨_, rfl⟩
      obtain ⟨y, hy⟩ : ∃ y, y = gaps[k].2 := ⟨_, rfl⟩
      rw [← hx] at hdr hset hp
      rw [← hy] at hdr hset hp hdr2
      clear hx hy hkg
      obtain ⟨aa, qa, cuta, calla⟩ := rdU16 hraw (12 + 4 * k) (N - (12 + 4 * k)) x _ (12 + 4 * (k : Int)) (by simp) (by rw [← HN.out]; have := HL.out; omega) hp.1 hdr
      obtain ⟨ab, qb, cutb, callb⟩ := rdU16 hraw (12 + 4 * k + 2) (N - (12 + 4 * k + 2)) y _ (12 + 4 * (k : Int) + 2) (by simp) (by rw [← HN.out]; have := HL.out; omega) hp.2 hdr2
      have n5 : IntKind.i64.wrap (12 + 4 * (k : Int) + 2) = 12 + 4 * (k : Int) + 2 := by rw [IntKind.wrap_i64]; omega
      have n6 : IntKind.i64.wrap (12 + 4 * (k : Int) + 4) = 12 + 4 * (k : Int) + 4 := by rw [IntKind.wrap_i64]; omega
      have hltI : (k : Int) < (G : Int) := by omega
      clear hdr hdr2
      go_wp2
      have e2 := fun w' (h : Grow wr.drew w') => (hbr.grow (grow_drew h)).cell 2 _ rfl
      have e5 := fun w' (h : Grow wr.drew w') => (hbr.grow (grow_drew h)).cell 5 _ rfl
      have cl := fun w' (h : Grow wr.drew w') => calla w' (hgr.trans (grow_drew h))
      (refine wp_region_calmK 16 170 Tryz.mixed rfl (by kernel_rfl) (fun T hT => ?_); simp only [List.take_succ_cons, List.take_zero, List.drop_succ_cons, List.drop_zero] at hT ⊢)
      iterate 13 (apply calm_val (D' := []) (hD := rfl); (· intro wZ1 hwZ1; simp only [fillAll]; go_simp; exact ⟨rfl, Grow.refl _⟩); simp only [Act.put, List.setIfInBounds_toArray, List.set_cons_succ, List.set_cons_zero])
      (apply calm_val (D' := []) (hD := rfl); (· intro wZ3 hwZ3; simp only [fillAll]; go_simp; refine ⟨Grow.refl _, (cl wZ3 hwZ3).mono ?_⟩; exact fun e wZ4 h => ⟨_, h.1, rfl, h.2⟩); simp only [Act.put, List.setIfInBounds_toArray, List.set_cons_succ, List.set_cons_zero])
      iterate 2 (apply calm_val (D' := []) (hD := rfl); (· intro wZ1 hwZ1; simp only [fillAll]; go_simp; exact ⟨rfl, Grow.refl _⟩); simp only [Act.put, List.setIfInBounds_toArray, List.set_cons_succ, List.set_cons_zero])
      (intro w12 hw12; simp only [fillAll]; refine hT _ _ ?_; clear hT T)
      have hb12 := hbr.grow (grow_drew hw12)
      have hr1b := hr1.grow (grow_drew hw12)
      have hr2b := hr2.grow (grow_drew hw12)
      have ho12 := hor.grow (grow_drew hw12)
      clear hw12 e2 e5 cl hbr hr1 hr2 hor calla hgr cuta
      rw [Nat.mul_comm 2 k] at hset
      obtain ⟨u, k0⟩ := blk_get hr1b (k * 2) (by omega)
      have f0 := hr1b.free (k * 2)
      go_wp2
      refine wp_at (fun w' => Blk w' b 108 [.int .u8 3, .int .u8 0, .slice ra N rc, .int .u32 tsn, .int .u32 win, .slice (some ⟨g1, 0, none⟩) G G, .slice (some ⟨g2, 0, none⟩) D D] ∧ Blk w' g1 242 ((gapMid gaps k).set (k * 2) (.int .u16 (x : Nat))) ∧ Blk w' g2 22 (dupMid dups 0) ∧ Only b w w') ⟨hb12.set_other _ _ hg1b.symm, hr1b.set _ _, hr2b.set_other _ _ hgg.symm, ho12.new (Only.setCell _ _ _ _) hlg1⟩ ?_
      clear u k0 f0 hb12 hr1b hr2b ho12
      rintro w13 ⟨hb13, hr1, hr2, ho13⟩
      have hg13 := ho13.below hg hle
      have e2 := fun w' (h : Grow w13.drew w') => (hb13.grow (grow_drew h)).cell 2 _ rfl
      have e5 := fun w' (h : Grow w13.drew w') => (hb13.grow (grow_drew h)).cell 5 _ rfl
      have cl := fun w' (h : Grow w13.drew w') => callb w' (hg13.trans (grow_drew h))
      (refine wp_region_calmK 17 170 Tryz.mixed rfl (by kernel_rfl) (fun T hT => ?_); simp only [List.take_succ_cons, List.take_zero, List.drop_succ_cons, List.drop_zero] at hT ⊢)
      iterate 14 (apply calm_val (D' := []) (hD := rfl); (· intro wZ1 hwZ1; simp only [fillAll]; go_simp; exact ⟨rfl, Grow.refl _⟩); simp only [Act.put, List.setIfInBounds_toArray, List.set_cons_succ, List.set_cons_zero])
      (apply calm_val (D' := []) (hD := rfl); (· intro wZ3 hwZ3; simp only [fillAll]; go_simp; refine ⟨Grow.refl _, (cl wZ3 hwZ3).mono ?_⟩; exact fun e wZ4 h => ⟨_, h.1, rfl, h.2⟩); simp only [Act.put, List.setIfInBounds_toArray, List.set_cons_succ, List.set_cons_zero])
      iterate 2 (apply calm_val (D' := []) (hD := rfl); (· intro wZ1 hwZ1; simp only [fillAll]; go_simp; exact ⟨rfl, Grow.refl _⟩); simp only [Act.put, List.setIfInBounds_toArray, List.set_cons_succ, List.set_cons_zero])
      (intro w14 hw14; simp only [fillAll]; refine hT _ _ ?_; clear hT T)
      have hb14 := hb13.grow (grow_drew hw14)
      have hr1b := hr1.grow (grow_drew hw14)
      have hr2b := hr2.grow (grow_drew hw14)
      have ho14 := ho13.grow (grow_drew hw14)
      clear hw14 e2 e5 cl hb13 hr1 hr2 ho13 callb hg13 cutb
      obtain ⟨u, k0⟩ := blk_get hr1b (k * 2 + 1) (by rw [List.length_set]; omega)
      have f0 := hr1b.free (k * 2 + 1)
      go_wp2
      go_roundw
      case rel => exact ⟨k + 1, by omega, by go_num, by go_num, hb14.set_other _ _ hg1b.symm, hset ▸ hr1b.set _ _, hr2b.set_other _ _ hgg.symm, ho14.new (Only.setCell _ _ _ _) hlg1⟩
      case measure => simp [intOf]; omega
    · obtain rfl : G = k := by omega
      have k6 := hbr.cell 6 _ rfl
      go_wp2
      clear k6
      go_loopw [6, 149] (fun t i wr => ∃ k : Nat, k ≤ D ∧ i = .int .i64 k ∧ t = .int .i64 (12 + 4 * (G : Int) + 4 * (k : Int)) ∧ Blk wr b 108 [.int .u8 3, .int .u8 0, .slice ra N rc, .int .u32 tsn, .int .u32 win, .slice (some ⟨g1, 0, none⟩) G G, .slice (some ⟨g2, 0, none⟩) D D] ∧ Blk wr g1 242 (gapMid gaps G) ∧ Blk wr g2 22 (dupMid dups k) ∧ Only b w wr) (fun _ i _ => D - (intOf i).toNat)
      case atStart => exact ⟨0, by omega, rfl, by go_num, hbr, hr1, hr2, hor⟩
      case round =>
        clear hbr hr1 hr2 hor
        obtain ⟨k, hk, rfl, rfl, hbr, hr1, hr2, hor⟩ := hrel
        by_cases hlt : k < D
        · have hgr := hor.below hg hle
          have hkd : k < dups.length := by rw [← HDe.out]; exact hlt
          obtain ⟨r, hdr⟩ := sack_dup tsn win gaps dups k hkd
          rw [← HGe.out] at hdr
          have hp := hdups dups[k] (List.getElem_mem hkd)
          have hset := dupMid_set dups k hkd
          have hml := dupMid_length dups k (by omega)
          rw [← HDe.out] at hml
          obtain ⟨x, hx⟩ : ∃ x, x = dups[k] := ⟨_, rfl⟩
          rw [← hx] at hdr hset hp
          clear hx hkd
          obtain ⟨aa, qa, cuta, calla⟩ := rdU32 hraw (12 + 4 * G + 4 * k) (N - (12 + 4 * G + 4 * k)) x _ (12 + 4 * (G : Int) + 4 * (k : Int)) (by simp) (by rw [← HN.out]; have := HL.out; omega) hp hdr
          have n6 : IntKind.i64.wrap (12 + 4 * (G : Int) + 4 * (k : Int) + 4) = 12 + 4 * (G : Int) + 4 * (k : Int) + 4 := by rw [IntKind.wrap_i64]; omega
          have hltI : (k : Int) < (D : Int) := by omega
          clear hdr
          go_wp2
          have e2 := fun w' (h : Grow wr.drew w') => (hbr.grow (grow_drew h)).cell 2 _ rfl
          have e6 := fun w' (h : Grow wr.drew w') => (hbr.grow (grow_drew h)).cell 6 _ rfl
          have cl := fun w' (h : Grow wr.drew w') => calla w' (hgr.trans (grow_drew h))
          (refine wp_region_calmK 15 170 Tryz.mixed rfl (by kernel_rfl) (fun T hT => ?_); simp only [List.take_succ_cons, List.take_zero, List.drop_succ_cons, List.drop_zero] at hT ⊢)
          iterate 13 (apply calm_val (D' := []) (hD := rfl); (· intro wZ1 hwZ1; simp only [fillAll]; go_simp; exact ⟨rfl, Grow.refl _⟩); simp only [Act.put, List.setIfInBounds_toArray, List.set_cons_succ, List.set_cons_zero])
          (apply calm_val (D' := []) (hD := rfl); (· intro wZ3 hwZ3; simp only [fillAll]; go_simp; refine ⟨Grow.refl _, (cl wZ3 hwZ3).mono ?_⟩; exact fun e wZ4 h => ⟨_, h.1, rfl, h.2⟩); simp only [Act.put, List.setIfInBounds_toArray, List.set_cons_succ, List.set_cons_zero])
          (apply calm_val (D' := []) (hD := rfl); (· intro wZ1 hwZ1; simp only [fillAll]; go_simp; exact ⟨rfl, Grow.refl _⟩); simp only [Act.put, List.setIfInBounds_toArray, List.set_cons_succ, List.set_cons_zero])
          (intro w12 hw12; simp only [fillAll]; refine hT _ _ ?_; clear hT T)
          have hb12 := hbr.grow (grow_drew hw12)
          have hr1b := hr1.grow (grow_drew hw12)
          have hr2b := hr2.grow (grow_drew hw12)
          have ho12 := hor.grow (grow_drew hw12)
          clear hw12 e2 e6 cl hbr hr1 hr2 hor calla hgr cuta
          obtain ⟨u, k0⟩ := blk_get hr2b k (by omega)
          have f0 := hr2b.free k
          go_wp2
          go_roundw
          case rel => exact ⟨k + 1, by omega, by go_num, by go_num, hb12.set_other _ _ hg2b.symm, hr1b.set_other _ _ hgg, hset ▸ hr2b.set _ _, ho12.new (Only.setCell _ _ _ _) hlg2⟩
          case measure => simp [intOf]; omega
        · obtain rfl : D = k := by omega
          have em : gapMid gaps G = gapCells gaps := by rw [HGe.out, gapMid_all]
          have en : dupMid dups D = dupCells dups := by rw [HDe.out, dupMid_all]
          rw [em] at hr1
          rw [en] at hr2
          go_wp2
          go_ret
          exact ⟨ra, rc, g1, g2, rfl, hraw, hlg1, hlg2, hbr, hr1, hr2, hor⟩
end Go.Proofs.YtdpmbchamefkmaaGreatDoor
