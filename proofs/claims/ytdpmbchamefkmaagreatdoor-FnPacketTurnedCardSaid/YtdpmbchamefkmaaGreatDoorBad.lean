/-
A packet whose checksum is wrong.
-/
import Derived.Test.YtdpmbchamefkmaaGreatDoorZZ2
namespace Go.Proofs.YtdpmbchamefkmaaGreatDoor
open Go.RowKit

theorem le32of_lt (l : List UInt8) : le32of l < 4294967296 := by
  unfold le32of
  split
  · rename_i b0 b1 b2 b3 _
    have := b0.toNat_lt
    have := b1.toNat_lt
    have := b2.toNat_lt
    have := b3.toNat_lt
    omega
  · omega

set_option maxRecDepth 100000 in
set_option maxHeartbeats 4000000 in
theorem packetBad_any (pb : Nat) (l : List UInt8) (v : Value) (w : World) (hv : RdB w v l) (h12 : 12 ≤ l.length) (hlen : l.length ≤ 2000000) (hbad : le32of (l.drop 8) ≠ Crc.crc (nats (bareB l))) (gT : TypeId) (gx : Value) (hglob : w.cell? ⟨4, 0, none⟩ = some (.iface gT gx)) :
    Calls Tryz.prog 32 #[.pointer (some ⟨pb, 0, none⟩), .bool true, v] w fun e w' => e = .returned (.iface gT gx) ∧ Grow w w' := by
  have hc36 := fun w' (h : Grow w w') => checksum_any v _ w' (hv.grow h) (by omega) (by omega)
  obtain ⟨ao, c, hform⟩ := hv.form
  obtain ⟨a8, q8, cut8, hr8⟩ := cut_l hv 8 (l.length - 8) 8 rfl (by omega)
  have hc35 := fun w' (h : Grow w w') => leU32_any _ _ w' ((hr8 w hv).grow h) (by rw [List.length_drop]; omega)
  obtain ⟨their, ht⟩ : ∃ t, t = le32of (l.drop 8) := ⟨_, rfl⟩
  obtain ⟨ours, ho⟩ : ∃ t, t = Crc.crc (nats (bareB l)) := ⟨_, rfl⟩
  rw [← ht] at hbad hc35
  rw [← ho] at hbad hc36
  have htl : their < 4294967296 := by rw [ht]; exact le32of_lt _
  have hne : ((their : Int) == (ours : Int)) = false := beq_eq_false_iff_ne.2 (by omega)
  obtain ⟨g, o, c', hv1, _, hcell⟩ := hv.at (by omega)
  have hfirst : 16 ≤ l.length → ∃ t : Nat, w.cell? ⟨g, o + 12, none⟩ = some (.int .u8 (t : Nat)) := fun h16 => ⟨_, hcell 12 (l[12]'(by omega)) (List.getElem?_eq_getElem (by omega))⟩
  rw [hform] at hv1
  simp only [Value.slice.injEq] at hv1
  obtain ⟨rfl, hv2, rfl⟩ := hv1
  obtain ⟨L, hL⟩ : ∃ L, L = l.length := ⟨_, rfl⟩
  rw [← hL] at h12 hlen hform cut8 hc35 hfirst
  subst hform
  clear ht ho hv2 hL hcell hr8 hbad
  have hL12 : ¬ (L : Int) < 12 := by omega
  go_enter Tryz.func32, Tryz.ntmps32
  go_upto_if 23 with fail
  go_cut [1] from 23 to 30 (fun c w' => c = .bool true ∧ w = w')
  case first =>
    by_cases h16 : 16 ≤ L
    · obtain ⟨t, hcell⟩ := hfirst h16
      have i1 : (12 : Int) < (L : Int) := by omega
      have i2 : (16 : Int) ≤ (L : Int) := by omega
      by_cases h1 : t = 1
      · subst h1
        go_wp2
        go_meet
        exact ⟨rfl, rfl⟩
      · have e1 : ((t : Int) == 1) = false := beq_eq_false_iff_ne.2 (by omega)
        by_cases h10 : t = 10
        · subst h10
          go_wp2
          go_meet
          exact ⟨rfl, rfl⟩
        · have e10 : ((t : Int) == 10) = false := beq_eq_false_iff_ne.2 (by omega)
          go_wp2
          go_meet
          exact ⟨rfl, rfl⟩
    · have i2 : ¬ (16 : Int) ≤ (L : Int) := by omega
      go_wp2
      go_meet
      exact ⟨rfl, rfl⟩
  clear hfirst
  case rest =>
  obtain ⟨rfl, rfl⟩ := hcut
  go_wp2
  have cl := fun w' (h : Grow w.drew w') => hc35 w' (grow_drew h)
  (refine wp_region_calmK 4 199 Tryz.mixed rfl (by kernel_rfl) (fun T hT => ?_); simp only [List.take_succ_cons, List.take_zero, List.drop_succ_cons, List.drop_zero] at hT ⊢)
  iterate 3 (apply calm_val (D' := []) (hD := rfl); (· intro wZ1 hwZ1; simp only [fillAll]; go_simp; exact ⟨rfl, Grow.refl _⟩); simp only [Act.put, List.setIfInBounds_toArray, List.set_cons_succ, List.set_cons_zero])
  (apply calm_val (D' := []) (hD := rfl); (· intro wZ3 hwZ3; simp only [fillAll]; go_simp; refine ⟨Grow.refl _, (cl wZ3 hwZ3).mono ?_⟩; exact fun e wZ4 h => ⟨_, h.1, rfl, h.2⟩); simp only [Act.put, List.setIfInBounds_toArray, List.set_cons_succ, List.set_cons_zero])
  (intro w2 hw2; simp only [fillAll]; refine hT _ _ ?_; clear hT T)
  have hg2 := grow_drew hw2
  clear hw2 cl cut8 hc35
  by_cases hs0 : their = 0
  · have e1 : ((their : Int) == 0) = true := by simp [hs0]
    clear hs0
    go_wp2_with (go_at_call 36; (with_reducible refine (hc36 _ hg2).mono ?_); rintro e w3 ⟨rfl, hg3⟩; have kg := cell_grow (hg2.trans hg3) hglob)
    go_ret
    exact ⟨rfl, hg2.trans hg3⟩
  · have e1 : ((their : Int) == 0) = false := beq_eq_false_iff_ne.2 (by omega)
    go_wp2_with (go_at_call 36; (with_reducible refine (hc36 _ hg2).mono ?_); rintro e w3 ⟨rfl, hg3⟩; have kg := cell_grow (hg2.trans hg3) hglob)
    go_ret
    exact ⟨rfl, hg2.trans hg3⟩

set_option maxRecDepth 100000 in
set_option maxHeartbeats 4000000 in
theorem zzBad_any (l : List UInt8) (v : Value) (w : World) (hv : RdB w v l) (h12 : 12 ≤ l.length) (hlen : l.length ≤ 2000000) (hbad : le32of (l.drop 8) ≠ Crc.crc (nats (bareB l))) (gT : TypeId) (gx : Value) (hglob : w.cell? ⟨4, 0, none⟩ = some (.iface gT gx)) :
    Calls Tryz.prog 22 #[v, .bool true] w fun e w' => e = .returned (.tuple #[.int .i64 0, .int .i64 0, .int .u32 0, .slice none 0 0, .iface gT gx]) ∧ Grow w w' := by
  obtain ⟨ao, c, rfl⟩ := hv.form
  go_enter Tryz.func22, Tryz.ntmps22
  go_upto_region 2 with fail
  have hgA := grow_alloc w (.cells #[.int .u16 0, .int .u16 0, .int .u32 0, .slice none 0 0] 70)
  have hc := fun pb => packetBad_any pb l _ _ (hv.grow hgA) h12 hlen hbad gT gx (cell_grow hgA hglob)
  clear hbad
  go_wp2_with (go_at_call 32; (with_reducible refine (hc _).mono ?_); rintro e w2 ⟨rfl, hg2⟩)
  go_returns
  exact ⟨rfl, hgA.trans hg2⟩

set_option maxRecDepth 100000 in
set_option maxHeartbeats 4000000 in
theorem implBad_any (l : List UInt8) (v : Value) (w : World) (hv : RdB w v l) (h12 : 12 ≤ l.length) (hlen : l.length ≤ 2000000) (hbad : le32of (l.drop 8) ≠ Crc.crc (nats (bareB l))) (gT : TypeId) (gx : Value) (hglob : w.cell? ⟨4, 0, none⟩ = some (.iface gT gx)) :
    Calls Tryz.prog 10 #[v, .bool true] w fun e w' => e = .returned (.tuple #[.int .i64 0, .int .i64 0, .int .u32 0, .slice none 0 0, .bool false]) ∧ Grow w w' := by
  obtain ⟨ao, c, rfl⟩ := hv.form
  have hc23 := copied_any _ _ w hv (by omega)
  have hc22 := fun a1 c1 w1 (h : RdB w1 (.slice a1 l.length c1) l) (hg : Grow w w1) => zzBad_any l _ w1 h h12 hlen hbad gT gx (cell_grow hg hglob)
  obtain ⟨M, hM⟩ : ∃ M, M = l.length := ⟨_, rfl⟩
  rw [← hM] at hc22 hc23 hv ⊢
  clear hbad hM h12 hlen
  go_enter Tryz.func10, Tryz.ntmps10
  go_wp2_with (first | (go_at_call 23; (with_reducible refine hc23.mono ?_); rintro e w1 ⟨a1, c1, rfl, ho1, hg1⟩) | (go_at_call 22; (with_reducible refine (hc22 _ _ _ ho1.rd hg1).mono ?_); rintro e w2 ⟨rfl, hg2⟩))
  go_returns
  exact ⟨rfl, hg1.trans hg2⟩
end Go.Proofs.YtdpmbchamefkmaaGreatDoor
