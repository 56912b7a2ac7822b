/-
A chunk of user data read.
-/
import Derived.Test.YtdpmbchamefkmaaGreatDoorData0
import Derived.Deep.DeepCutAuto
import Derived.Deep.CutRange
import Derived.Handy
namespace Go.Proofs.YtdpmbchamefkmaaGreatDoor
open Go.RowKit

theorem flag_bits (un be en im : Bool) : (bits .and .u8 ((flagN un be en im : Nat) : Int) 8 != 0) = im ∧ (bits .and .u8 ((flagN un be en im : Nat) : Int) 4 != 0) = un ∧
    (bits .and .u8 ((flagN un be en im : Nat) : Int) 2 != 0) = be ∧ (bits .and .u8 ((flagN un be en im : Nat) : Int) 1 != 0) = en := by
  revert un be en im; decide

set_option maxRecDepth 100000 in
set_option maxHeartbeats 2000000 in
theorem dataUnmarshal_any (b : Nat) (un be en im : Bool) (tsn sid seq ppi : Nat) (user : List UInt8) (c0 c1 c2 c3 c4 c5 c6 c7 c8 c9 c10 c11 c12 c13 c14 c15 : Value) (tl : List Value) (v : Value) (rest : List UInt8) (w1 w : World)
    (hv : RdB w1 v (chunkB 0 (flagN un be en im) (dataB tsn sid seq ppi user) ++ rest)) (hg : Grow w1 w) (hle : w1.heap.size ≤ b)
    (hb : Blk w b 104 (c0 :: c1 :: c2 :: c3 :: c4 :: c5 :: c6 :: c7 :: c8 :: c9 :: c10 :: c11 :: c12 :: c13 :: c14 :: c15 :: tl)) (htsn : tsn < 4294967296) (hsid : sid < 65536) (hseq : seq < 65536) (hppi : ppi < 4294967296)
    (hU : user.length ≤ 5000) (hrest : rest.length ≤ 140737488000000) (hz : rest.length < 4 → ∀ x ∈ rest, x = 0) :
    Calls Tryz.prog 108 #[.pointer (some ⟨b, 0, none⟩), v] w fun e w' => ∃ ra rc ua uc, e = .returned .nilIface ∧ RdB w1 (.slice ua user.length uc) user ∧
      Blk w' b 104 (.int .u8 0 :: .int .u8 (flagN un be en im : Nat) :: .slice ra (dataB tsn sid seq ppi user).length rc :: c3 :: .bool un :: .bool be :: .bool en :: .bool im :: .int .u32 tsn :: .int .u16 sid :: .int .u16 seq :: c11 :: c12 :: .int .u32 ppi :: .slice ua user.length uc :: .bool false :: tl) ∧ Only b w w' := by
  have hlen := dataB_length tsn sid seq ppi user
  have hfl := flagN_lt un be en im
  have hc70 := headUnmarshal_any b 104 0 (flagN un be en im) c0 c1 c2 (c3 :: c4 :: c5 :: c6 :: c7 :: c8 :: c9 :: c10 :: c11 :: c12 :: c13 :: c14 :: c15 :: tl) v (dataB tsn sid seq ppi user) rest w1 w hv hg hle hb (by omega) (by omega) (by omega) hrest hz
  obtain ⟨a8, a4, a2, a1⟩ := flag_bits un be en im
  obtain ⟨F, hF⟩ : ∃ F, F = flagN un be en im := ⟨_, rfl⟩
  obtain ⟨U, hUe⟩ : ∃ U, U = user.length := ⟨_, rfl⟩
  obtain ⟨N, hN⟩ : ∃ N, N = (dataB tsn sid seq ppi user).length := ⟨_, rfl⟩
  rw [← hN] at hc70 ⊢
  rw [← hN, ← hUe] at hlen
  rw [← hUe] at hU ⊢
  rw [← hF] at hc70 a8 a4 a2 a1 ⊢
  have hN12 : ¬ (N : Int) < 12 := by omega
  have HU := Lib.hid hUe
  have HN := Lib.hid hN
  have HL := Lib.hid hlen
  clear hUe hN hF hlen hv hz hfl
  have hbw := hb
  go_enter Tryz.func108, Tryz.ntmps108
  go_upto_region 4 with (go_loud (go_at_call 70; (with_reducible refine hc70.mono ?_); rintro e w2 ⟨ra, rc, rfl, hraw, hb2, ho2⟩; rw [show ((0 : Nat) : Int) = 0 from rfl] at hb2))
  have hg2 := ho2.below hg hle
  clear hc70 hb
  obtain ⟨A0, q0, cut0, call0⟩ := rdU32 hraw 0 N tsn _ 0 rfl (by rw [HN.out]; omega) htsn (by rw [List.drop_zero, dataB])
  obtain ⟨A4, q4, cut4, call4⟩ := rdU16 hraw 4 (N - 4) sid _ 4 rfl (by rw [← HN.out]; omega) hsid (data_drop4 _ _ _ _ _)
  obtain ⟨A6, q6, cut6, call6⟩ := rdU16 hraw 6 (N - 6) seq _ 6 rfl (by rw [← HN.out]; omega) hseq (data_drop6 _ _ _ _ _)
  obtain ⟨A8, q8, cut8, call8⟩ := rdU32 hraw 8 (N - 8) ppi _ 8 rfl (by rw [← HN.out]; omega) hppi (data_drop8 _ _ _ _ _)
  obtain ⟨ua, uc, cut12, rd12⟩ := cut_l hraw 12 U 12 rfl (by rw [← HN.out, HL.out])
  have hus := rd12 w1 hraw
  rw [data_drop12] at hus
  clear rd12
  have k1 := hb2.cell 1 _ rfl
  have f := hb2.free 7
  have k := hb2.cell 7 _ rfl
  go_upto_region 5 with fail
  refine wp_at (fun w' => Blk w' b 104 (.int .u8 0 :: .int .u8 F :: .slice ra N rc :: c3 :: c4 :: c5 :: c6 :: .bool im :: c8 :: c9 :: c10 :: c11 :: c12 :: c13 :: c14 :: c15 :: tl) ∧ Only b w w') ⟨hb2.set 7 (.bool im), ho2.trans (Only.setCell _ _ _ _)⟩ ?_
  clear f k k1 hb2 ho2 hg2
  rintro w3 ⟨hb3, ho3⟩
  have k1 := hb3.cell 1 _ rfl
  have f := hb3.free 4
  have k := hb3.cell 4 _ rfl
  go_upto_region 6 with fail
  refine wp_at (fun w' => Blk w' b 104 (.int .u8 0 :: .int .u8 F :: .slice ra N rc :: c3 :: .bool un :: c5 :: c6 :: .bool im :: c8 :: c9 :: c10 :: c11 :: c12 :: c13 :: c14 :: c15 :: tl) ∧ Only b w w') ⟨hb3.set 4 (.bool un), ho3.trans (Only.setCell _ _ _ _)⟩ ?_
  clear f k k1 hb3 ho3
  rintro w4 ⟨hb4, ho4⟩
  have k1 := hb4.cell 1 _ rfl
  have f := hb4.free 5
  have k := hb4.cell 5 _ rfl
  go_upto_region 7 with fail
  refine wp_at (fun w' => Blk w' b 104 (.int .u8 0 :: .int .u8 F :: .slice ra N rc :: c3 :: .bool un :: .bool be :: c6 :: .bool im :: c8 :: c9 :: c10 :: c11 :: c12 :: c13 :: c14 :: c15 :: tl) ∧ Only b w w') ⟨hb4.set 5 (.bool be), ho4.trans (Only.setCell _ _ _ _)⟩ ?_
  clear f k k1 hb4 ho4
  rintro w5 ⟨hb5, ho5⟩
  have k1 := hb5.cell 1 _ rfl
  have f := hb5.free 6
  have k := hb5.cell 6 _ rfl
  go_upto_region 8 with fail
  refine wp_at (fun w' => Blk w' b 104 (.int .u8 0 :: .int .u8 F :: .slice ra N rc :: c3 :: .bool un :: .bool be :: .bool en :: .bool im :: c8 :: c9 :: c10 :: c11 :: c12 :: c13 :: c14 :: c15 :: tl) ∧ Only b w w') ⟨hb5.set 6 (.bool en), ho5.trans (Only.setCell _ _ _ _)⟩ ?_
  clear f k k1 hb5 ho5 a8 a4 a2 a1
  rintro w6 ⟨hb6, ho6⟩
  have k0 := hb6.cell 0 _ rfl
  have k2 := hb6.cell 2 _ rfl
  go_upto_region 13 with fail
  clear k0 k2
  have hg6 := ho6.below hg hle
  have e2 := fun w' (h : Grow w6.drew w') => (hb6.grow (grow_drew h)).cell 2 _ rfl
  have cl := fun w' (h : Grow w6.drew w') => call0 w' (hg6.trans (grow_drew h))
  go_wp2
  (refine wp_region_calmK 11 221 Tryz.mixed rfl (by kernel_rfl) (fun T hT => ?_); simp only [List.take_succ_cons, List.take_zero, List.drop_succ_cons, List.drop_zero] at hT ⊢)
  iterate 8 (apply calm_val (D' := []) (hD := rfl); (· intro wZ1 hwZ1; simp only [fillAll]; go_simp; exact ⟨rfl, Grow.refl _⟩); simp only [Act.put, List.setIfInBounds_toArray, List.set_cons_succ, List.set_cons_zero])
  (apply calm_val (D' := []) (hD := rfl); (· intro wZ3 hwZ3; simp only [fillAll]; go_simp; refine ⟨Grow.refl _, (cl wZ3 hwZ3).mono ?_⟩; exact fun e wZ4 h => ⟨_, h.1, rfl, h.2⟩); simp only [Act.put, List.setIfInBounds_toArray, List.set_cons_succ, List.set_cons_zero])
  iterate 2 (apply calm_val (D' := []) (hD := rfl); (· intro wZ1 hwZ1; simp only [fillAll]; go_simp; exact ⟨rfl, Grow.refl _⟩); simp only [Act.put, List.setIfInBounds_toArray, List.set_cons_succ, List.set_cons_zero])
  (intro w7 hwQ; simp only [fillAll]; refine hT _ _ ?_; clear hT T)
  have hb7 := hb6.grow (grow_drew hwQ)
  have ho7 := ho6.grow (grow_drew hwQ)
  clear hwQ e2 cl cut0 call0
  have f := hb7.free 8
  have k := hb7.cell 8 _ rfl
  go_wp2
  refine wp_at (fun w' => Blk w' b 104 (.int .u8 0 :: .int .u8 F :: .slice ra N rc :: c3 :: .bool un :: .bool be :: .bool en :: .bool im :: .int .u32 tsn :: c9 :: c10 :: c11 :: c12 :: c13 :: c14 :: c15 :: tl) ∧ Only b w w') ⟨hb7.set 8 (.int .u32 tsn), ho7.trans (Only.setCell _ _ _ _)⟩ ?_
  clear f k hb7 ho7 hb6 ho6 hg6
  rintro w8 ⟨hb8, ho8⟩
  have hg8 := ho8.below hg hle
  have e2 := fun w' (h : Grow w8.drew w') => (hb8.grow (grow_drew h)).cell 2 _ rfl
  have cl := fun w' (h : Grow w8.drew w') => call4 w' (hg8.trans (grow_drew h))
  (refine wp_region_calmK 11 221 Tryz.mixed rfl (by kernel_rfl) (fun T hT => ?_); simp only [List.take_succ_cons, List.take_zero, List.drop_succ_cons, List.drop_zero] at hT ⊢)
  iterate 8 (apply calm_val (D' := []) (hD := rfl); (· intro wZ1 hwZ1; simp only [fillAll]; go_simp; exact ⟨rfl, Grow.refl _⟩); simp only [Act.put, List.setIfInBounds_toArray, List.set_cons_succ, List.set_cons_zero])
  (apply calm_val (D' := []) (hD := rfl); (· intro wZ3 hwZ3; simp only [fillAll]; go_simp; refine ⟨Grow.refl _, (cl wZ3 hwZ3).mono ?_⟩; exact fun e wZ4 h => ⟨_, h.1, rfl, h.2⟩); simp only [Act.put, List.setIfInBounds_toArray, List.set_cons_succ, List.set_cons_zero])
  iterate 2 (apply calm_val (D' := []) (hD := rfl); (· intro wZ1 hwZ1; simp only [fillAll]; go_simp; exact ⟨rfl, Grow.refl _⟩); simp only [Act.put, List.setIfInBounds_toArray, List.set_cons_succ, List.set_cons_zero])
  (intro w9 hwQ; simp only [fillAll]; refine hT _ _ ?_; clear hT T)
  have hb9 := hb8.grow (grow_drew hwQ)
  have ho9 := ho8.grow (grow_drew hwQ)
  clear hwQ e2 cl cut4 call4
  have f := hb9.free 9
  have k := hb9.cell 9 _ rfl
  go_wp2
  refine wp_at (fun w' => Blk w' b 104 (.int .u8 0 :: .int .u8 F :: .slice ra N rc :: c3 :: .bool un :: .bool be :: .bool en :: .bool im :: .int .u32 tsn :: .int .u16 sid :: c10 :: c11 :: c12 :: c13 :: c14 :: c15 :: tl) ∧ Only b w w') ⟨hb9.set 9 (.int .u16 sid), ho9.trans (Only.setCell _ _ _ _)⟩ ?_
  clear f k hb9 ho9 hb8 ho8 hg8
  rintro w10 ⟨hb10, ho10⟩
  have hg10 := ho10.below hg hle
  have e2 := fun w' (h : Grow w10.drew w') => (hb10.grow (grow_drew h)).cell 2 _ rfl
  have cl := fun w' (h : Grow w10.drew w') => call6 w' (hg10.trans (grow_drew h))
  (refine wp_region_calmK 11 221 Tryz.mixed rfl (by kernel_rfl) (fun T hT => ?_); simp only [List.take_succ_cons, List.take_zero, List.drop_succ_cons, List.drop_zero] at hT ⊢)
  iterate 8 (apply calm_val (D' := []) (hD := rfl); (· intro wZ1 hwZ1; simp only [fillAll]; go_simp; exact ⟨rfl, Grow.refl _⟩); simp only [Act.put, List.setIfInBounds_toArray, List.set_cons_succ, List.set_cons_zero])
  (apply calm_val (D' := []) (hD := rfl); (· intro wZ3 hwZ3; simp only [fillAll]; go_simp; refine ⟨Grow.refl _, (cl wZ3 hwZ3).mono ?_⟩; exact fun e wZ4 h => ⟨_, h.1, rfl, h.2⟩); simp only [Act.put, List.setIfInBounds_toArray, List.set_cons_succ, List.set_cons_zero])
  iterate 2 (apply calm_val (D' := []) (hD := rfl); (· intro wZ1 hwZ1; simp only [fillAll]; go_simp; exact ⟨rfl, Grow.refl _⟩); simp only [Act.put, List.setIfInBounds_toArray, List.set_cons_succ, List.set_cons_zero])
  (intro w11 hwQ; simp only [fillAll]; refine hT _ _ ?_; clear hT T)
  have hb11 := hb10.grow (grow_drew hwQ)
  have ho11 := ho10.grow (grow_drew hwQ)
  clear hwQ e2 cl cut6 call6
  have f := hb11.free 10
  have k := hb11.cell 10 _ rfl
  go_wp2
  refine wp_at (fun w' => Blk w' b 104 (.int .u8 0 :: .int .u8 F :: .slice ra N rc :: c3 :: .bool un :: .bool be :: .bool en :: .bool im :: .int .u32 tsn :: .int .u16 sid :: .int .u16 seq :: c11 :: c12 :: c13 :: c14 :: c15 :: tl) ∧ Only b w w') ⟨hb11.set 10 (.int .u16 seq), ho11.trans (Only.setCell _ _ _ _)⟩ ?_
  clear f k hb11 ho11 hb10 ho10 hg10
  rintro w12 ⟨hb12, ho12⟩
  have hg12 := ho12.below hg hle
  have e2 := fun w' (h : Grow w12.drew w') => (hb12.grow (grow_drew h)).cell 2 _ rfl
  have cl := fun w' (h : Grow w12.drew w') => call8 w' (hg12.trans (grow_drew h))
  (refine wp_region_calmK 11 221 Tryz.mixed rfl (by kernel_rfl) (fun T hT => ?_); simp only [List.take_succ_cons, List.take_zero, List.drop_succ_cons, List.drop_zero] at hT ⊢)
  iterate 8 (apply calm_val (D' := []) (hD := rfl); (· intro wZ1 hwZ1; simp only [fillAll]; go_simp; exact ⟨rfl, Grow.refl _⟩); simp only [Act.put, List.setIfInBounds_toArray, List.set_cons_succ, List.set_cons_zero])
  (apply calm_val (D' := []) (hD := rfl); (· intro wZ3 hwZ3; simp only [fillAll]; go_simp; refine ⟨Grow.refl _, (cl wZ3 hwZ3).mono ?_⟩; exact fun e wZ4 h => ⟨_, h.1, rfl, h.2⟩); simp only [Act.put, List.setIfInBounds_toArray, List.set_cons_succ, List.set_cons_zero])
  iterate 2 (apply calm_val (D' := []) (hD := rfl); (· intro wZ1 hwZ1; simp only [fillAll]; go_simp; exact ⟨rfl, Grow.refl _⟩); simp only [Act.put, List.setIfInBounds_toArray, List.set_cons_succ, List.set_cons_zero])
  (intro w13 hwQ; simp only [fillAll]; refine hT _ _ ?_; clear hT T)
  have hb13 := hb12.grow (grow_drew hwQ)
  have ho13 := ho12.grow (grow_drew hwQ)
  clear hwQ e2 cl cut8 call8
  have f := hb13.free 13
  have k := hb13.cell 13 _ rfl
  go_upto_region 17 with fail
  refine wp_at (fun w' => Blk w' b 104 (.int .u8 0 :: .int .u8 F :: .slice ra N rc :: c3 :: .bool un :: .bool be :: .bool en :: .bool im :: .int .u32 tsn :: .int .u16 sid :: .int .u16 seq :: c11 :: c12 :: .int .u32 ppi :: c14 :: c15 :: tl) ∧ Only b w w') ⟨hb13.set 13 (.int .u32 ppi), ho13.trans (Only.setCell _ _ _ _)⟩ ?_
  clear f k hb13 ho13 hb12 ho12 hg12
  rintro w14 ⟨hb14, ho14⟩
  have k2 := hb14.cell 2 _ rfl
  have f := hb14.free 14
  have k := hb14.cell 14 _ rfl
  go_upto_region 18 with fail
  refine wp_at (fun w' => Blk w' b 104 (.int .u8 0 :: .int .u8 F :: .slice ra N rc :: c3 :: .bool un :: .bool be :: .bool en :: .bool im :: .int .u32 tsn :: .int .u16 sid :: .int .u16 seq :: c11 :: c12 :: .int .u32 ppi :: .slice ua U uc :: c15 :: tl) ∧ Only b w w') ⟨by have hs := hb14.set 14 (.slice ua U uc); simpa only [List.set_cons_succ, List.set_cons_zero] using hs, ho14.trans (Only.setCell _ _ _ _)⟩ ?_
  clear f k k2 hb14 ho14
  rintro w15 ⟨hb15, ho15⟩
  have f := hb15.free 15
  have k := hb15.cell 15 _ rfl
  go_wp2
  go_ret
  exact ⟨ra, rc, ua, uc, rfl, hus, by have hs := hb15.set 15 (.bool false); simpa only [List.set_cons_succ, List.set_cons_zero] using hs, ho15.trans (Only.setCell _ _ _ _)⟩
end Go.Proofs.YtdpmbchamefkmaaGreatDoor
