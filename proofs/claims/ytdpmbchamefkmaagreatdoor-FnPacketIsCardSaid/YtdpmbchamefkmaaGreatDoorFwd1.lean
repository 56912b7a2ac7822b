/-
A stream's number and its last number of order: written, read.
-/
import Derived.Test.YtdpmbchamefkmaaGreatDoorData0
import Derived.Deep.DeepCutAuto
import Derived.Deep.CutRange
import Derived.Handy
namespace Go.Proofs.YtdpmbchamefkmaaGreatDoor
open Go.RowKit

set_option maxRecDepth 20000 in
set_option maxHeartbeats 1000000 in
theorem streamLength_any (v : Value) (w : World) : Calls Tryz.prog 121 #[v] w fun e w' => e = .returned (.int .i64 4) ∧ w = w' := by
  go_enter Tryz.func121, Tryz.ntmps121
  go_wp2
  go_ret
  exact ⟨rfl, rfl⟩

set_option maxRecDepth 20000 in
set_option maxHeartbeats 1000000 in
theorem streamMarshal_any (s x y : Nat) (w : World) (hb : Blk w s 244 [.int .u16 x, .int .u16 y]) (hx : x < 65536) (hy : y < 65536) :
    Calls Tryz.prog 119 #[.pointer (some ⟨s, 0, none⟩)] w fun e w' => ∃ g, e = .returned (.tuple #[.slice (some ⟨g, 0, none⟩) 4 4, .nilIface]) ∧ w.heap.size ≤ g ∧ Blk w' g 5 (bc (be2 x ++ be2 y)) ∧ Grow w w' := by
  go_enter Tryz.func119, Tryz.ntmps119
  go_wp2_with (refine wpl_makeB rfl _ _ rfl _ _ _ 4 rfl rfl rfl (by omega) ?_)
  intro g w1 hgl hbuf hg1
  rw [← fill_nil] at hbuf
  go_wp2
  have hcut := cutbuf1 g 0 4 4 0 rfl (by omega) (by omega)
  have ec := fun w' (h : Grow w1.drew w') => (hb.grow (hg1.trans (grow_drew h))).cell 0 _ rfl
  (refine wp_region_calmK 7 23 Tryz.mixed rfl (by kernel_rfl) (fun T hT => ?_); simp only [List.take_succ_cons, List.take_zero, List.drop_succ_cons, List.drop_zero] at hT ⊢)
  iterate 7 (apply calm_val (D' := []) (hD := rfl); (· intro wZ1 hwZ1; simp only [fillAll]; go_simp; exact ⟨rfl, Grow.refl _⟩); simp only [Act.put, List.setIfInBounds_toArray, List.set_cons_succ, List.set_cons_zero])
  (intro w2 hwQ; simp only [fillAll]; refine hT _ _ ?_; clear hT T)
  have hbufQ := hbuf.grow (grow_drew hwQ)
  have hg2 := hg1.trans (grow_drew hwQ)
  clear hwQ ec hcut hbuf hg1
  go_wp2_with (go_loud (go_at_call 40; (with_reducible refine (fillP16 g 0 4 4 4 [] x w2 hbufQ (by omega) rfl (by omega) (by omega) (by omega)).mono ?_); rintro e w3 ⟨rfl, hbuf, hoR⟩))
  have hg3 := hoR.below hg2 hgl
  clear hbufQ hg2 hoR
  have hcut := cutbuf1 g 2 2 4 2 rfl (by omega) (by omega)
  have ec := fun w' (h : Grow w3.drew w') => (hb.grow (hg3.trans (grow_drew h))).cell 1 _ rfl
  (refine wp_region_calmK 7 23 Tryz.mixed rfl (by kernel_rfl) (fun T hT => ?_); simp only [List.take_succ_cons, List.take_zero, List.drop_succ_cons, List.drop_zero] at hT ⊢)
  iterate 7 (apply calm_val (D' := []) (hD := rfl); (· intro wZ1 hwZ1; simp only [fillAll]; go_simp; exact ⟨rfl, Grow.refl _⟩); simp only [Act.put, List.setIfInBounds_toArray, List.set_cons_succ, List.set_cons_zero])
  (intro w4 hwQ; simp only [fillAll]; refine hT _ _ ?_; clear hT T)
  have hbufQ := hbuf.grow (grow_drew hwQ)
  have hg4 := hg3.trans (grow_drew hwQ)
  clear hwQ ec hcut hbuf hg3
  go_wp2_with (go_loud (go_at_call 40; (with_reducible refine (fillP16 g 2 2 2 4 ([] ++ be2 x) y w4 hbufQ (by omega) rfl (by omega) (by omega) (by omega)).mono ?_); rintro e w5 ⟨rfl, hbuf, hoR⟩))
  have hg5 := hoR.below hg4 hgl
  rw [List.nil_append, fill_full 4 (be2 x ++ be2 y) rfl] at hbuf
  go_ret2
  exact ⟨g, rfl, hgl, hbuf, hg5⟩

set_option maxRecDepth 20000 in
set_option maxHeartbeats 1000000 in
theorem streamUnmarshal_any (s x y N : Nat) (c0 c1 : Value) (a : Option Addr) (c : Nat) (l r : List UInt8) (w1 w : World) (hv : RdB w1 (.slice a N c) l) (hl : l = be2 x ++ (be2 y ++ r)) (hN : N = l.length) (hg : Grow w1 w) (hle : w1.heap.size ≤ s) (hb : Blk w s 244 [c0, c1]) (hx : x < 65536) (hy : y < 65536) :
    Calls Tryz.prog 120 #[.pointer (some ⟨s, 0, none⟩), .slice a N c] w fun e w' => e = .returned .nilIface ∧ Blk w' s 244 [.int .u16 x, .int .u16 y] ∧ Only s w w' := by
  have h4 : 4 ≤ N := by rw [hN, hl]; simp [be2]
  obtain ⟨A0, q0, cut0, call0⟩ := rdU16 hv 0 N x (be2 y ++ r) 0 rfl (by omega) hx (by rw [List.drop_zero, hl])
  obtain ⟨A2, q2, cut2, call2⟩ := rdU16 hv 2 (N - 2) y r 2 rfl (by omega) hy (by rw [hl]; simp [be2])
  have hN4 : ¬ (N : Int) < 4 := by omega
  have HN := Lib.hid hN
  clear hN hl hv
  go_enter Tryz.func120, Tryz.ntmps120
  go_wp2
  have cl := fun w' (h : Grow w.drew w') => call0 w' (hg.trans (grow_drew h))
  (refine wp_region_calmK 7 23 Tryz.mixed rfl (by kernel_rfl) (fun T hT => ?_); simp only [List.take_succ_cons, List.take_zero, List.drop_succ_cons, List.drop_zero] at hT ⊢)
  iterate 4 (apply calm_val (D' := []) (hD := rfl); (· intro wZ1 hwZ1; simp only [fillAll]; go_simp; exact ⟨rfl, Grow.refl _⟩); simp only [Act.put, List.setIfInBounds_toArray, List.set_cons_succ, List.set_cons_zero])
  (apply calm_val (D' := []) (hD := rfl); (· intro wZ3 hwZ3; simp only [fillAll]; go_simp; refine ⟨Grow.refl _, (cl wZ3 hwZ3).mono ?_⟩; exact fun e wZ4 h => ⟨_, h.1, rfl, h.2⟩); simp only [Act.put, List.setIfInBounds_toArray, List.set_cons_succ, List.set_cons_zero])
  iterate 2 (apply calm_val (D' := []) (hD := rfl); (· intro wZ1 hwZ1; simp only [fillAll]; go_simp; exact ⟨rfl, Grow.refl _⟩); simp only [Act.put, List.setIfInBounds_toArray, List.set_cons_succ, List.set_cons_zero])
  (intro w2 hwQ; simp only [fillAll]; refine hT _ _ ?_; clear hT T)
  have hb2 := hb.grow (grow_drew hwQ)
  have ho2 : Only s w w2 := Only.of_grow (grow_drew hwQ)
  clear hwQ cl cut0 call0
  have f := hb2.free 0
  have k := hb2.cell 0 _ rfl
  go_wp2
  refine wp_at (fun w' => Blk w' s 244 [.int .u16 x, c1] ∧ Only s w w') ⟨hb2.set 0 (.int .u16 x), ho2.trans (Only.setCell _ _ _ _)⟩ ?_
  clear f k hb2 ho2
  rintro w3 ⟨hb3, ho3⟩
  have hg3 := ho3.below hg hle
  have cl := fun w' (h : Grow w3.drew w') => call2 w' (hg3.trans (grow_drew h))
  (refine wp_region_calmK 7 23 Tryz.mixed rfl (by kernel_rfl) (fun T hT => ?_); simp only [List.take_succ_cons, List.take_zero, List.drop_succ_cons, List.drop_zero] at hT ⊢)
  iterate 4 (apply calm_val (D' := []) (hD := rfl); (· intro wZ1 hwZ1; simp only [fillAll]; go_simp; exact ⟨rfl, Grow.refl _⟩); simp only [Act.put, List.setIfInBounds_toArray, List.set_cons_succ, List.set_cons_zero])
  (apply calm_val (D' := []) (hD := rfl); (· intro wZ3 hwZ3; simp only [fillAll]; go_simp; refine ⟨Grow.refl _, (cl wZ3 hwZ3).mono ?_⟩; exact fun e wZ4 h => ⟨_, h.1, rfl, h.2⟩); simp only [Act.put, List.setIfInBounds_toArray, List.set_cons_succ, List.set_cons_zero])
  iterate 2 (apply calm_val (D' := []) (hD := rfl); (· intro wZ1 hwZ1; simp only [fillAll]; go_simp; exact ⟨rfl, Grow.refl _⟩); simp only [Act.put, List.setIfInBounds_toArray, List.set_cons_succ, List.set_cons_zero])
  (intro w4 hwQ; simp only [fillAll]; refine hT _ _ ?_; clear hT T)
  have hb4 := hb3.grow (grow_drew hwQ)
  have ho4 := ho3.grow (grow_drew hwQ)
  clear hwQ cl cut2 call2
  have f := hb4.free 1
  have k := hb4.cell 1 _ rfl
  go_wp2
  go_ret
  exact ⟨rfl, hb4.set 1 _, ho4.trans (Only.setCell _ _ _ _)⟩
end Go.Proofs.YtdpmbchamefkmaaGreatDoor
