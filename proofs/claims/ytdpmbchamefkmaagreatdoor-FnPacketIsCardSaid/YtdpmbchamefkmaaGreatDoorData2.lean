/-
A chunk of user data written.
-/
import Derived.Test.YtdpmbchamefkmaaGreatDoorData1
import Derived.Deep.DeepCutAuto
import Derived.Deep.CutRange
import Derived.Handy
namespace Go.Proofs.YtdpmbchamefkmaaGreatDoor
open Go.RowKit

set_option maxRecDepth 20000 in
set_option maxHeartbeats 1000000 in
theorem isIData_any (b : Nat) (c1 c2 c3 c4 c5 c6 c7 c8 c9 c10 c11 c12 c13 c14 : Value) (tl : List Value) (w : World) (hb : Blk w b 104 (.int .u8 0 :: c1 :: c2 :: c3 :: c4 :: c5 :: c6 :: c7 :: c8 :: c9 :: c10 :: c11 :: c12 :: c13 :: c14 :: .bool false :: tl)) :
    Calls Tryz.prog 109 #[.pointer (some ⟨b, 0, none⟩)] w fun e w' => e = .returned (.bool false) ∧ w = w' := by
  have k0 := hb.cell 0 _ rfl
  have k15 := hb.cell 15 _ rfl
  go_enter Tryz.func109, Tryz.ntmps109
  go_wp2
  go_ret
  exact ⟨rfl, rfl⟩

theorem flag_or (un be en im : Bool) : ∃ f1 f2 f3 : Nat, (en = true → (1 : Int) = f1) ∧ (en = false → (0 : Int) = f1) ∧ (be = true → bits .or .u8 (f1 : Int) 2 = f2) ∧ (be = false → (f1 : Int) = f2) ∧
    (un = true → bits .or .u8 (f2 : Int) 4 = f3) ∧ (un = false → (f2 : Int) = f3) ∧ (im = true → bits .or .u8 (f3 : Int) 8 = (flagN un be en im : Nat)) ∧ (im = false → (f3 : Int) = (flagN un be en im : Nat)) := by
  refine ⟨bN en 1, bN en 1 + bN be 2, bN en 1 + bN be 2 + bN un 4, ?_⟩
  revert un be en im; decide

set_option maxRecDepth 100000 in
set_option maxHeartbeats 4000000 in
theorem dataMarshal_any (b : Nat) (un be en im : Bool) (tsn sid seq ppi : Nat) (user : List UInt8) (c1 c2 c3 c11 c12 : Value) (ua : Option Addr) (uc : Nat) (tl : List Value) (w : World)
    (hb : Blk w b 104 (.int .u8 0 :: c1 :: c2 :: c3 :: .bool un :: .bool be :: .bool en :: .bool im :: .int .u32 tsn :: .int .u16 sid :: .int .u16 seq :: c11 :: c12 :: .int .u32 ppi :: .slice ua user.length uc :: .bool false :: tl))
    (hu : RdB w (.slice ua user.length uc) user) (htsn : tsn < 4294967296) (hsid : sid < 65536) (hseq : seq < 65536) (hppi : ppi < 4294967296) (hU : user.length ≤ 5000) :
    Calls Tryz.prog 106 #[.pointer (some ⟨b, 0, none⟩)] w fun e w' => ∃ g, e = .returned (.tuple #[.slice (some ⟨g, 0, none⟩) (4 + (dataB tsn sid seq ppi user).length) (4 + (dataB tsn sid seq ppi user).length), .nilIface]) ∧ w.heap.size ≤ g ∧
      Blk w' g 5 (bc (chunkB 0 (flagN un be en im) (dataB tsn sid seq ppi user))) ∧ Only b w w' := by
  have hlen := dataB_length tsn sid seq ppi user
  have hfl := flagN_lt un be en im
  obtain ⟨f1, f2, f3, o1, p1, o2, p2, o3, p3, o4, p4⟩ := flag_or un be en im
  have hc109 := isIData_any b _ _ _ _ _ _ _ _ _ _ _ _ _ _ _ w hb
  obtain ⟨F, hF⟩ : ∃ F, F = flagN un be en im := ⟨_, rfl⟩
  obtain ⟨U, hUe⟩ : ∃ U, U = user.length := ⟨_, rfl⟩
  obtain ⟨N, hN⟩ : ∃ N, N = (dataB tsn sid seq ppi user).length := ⟨_, rfl⟩
  rw [← hN]
  rw [← hN, ← hUe] at hlen
  rw [← hUe] at hU hb hu
  rw [← hF] at o4 p4 hfl ⊢
  have n1 : IntKind.i64.wrap (12 + (U : Int)) = (N : Int) := by rw [IntKind.wrap_i64]; omega
  have HU := Lib.hid hUe
  have HN := Lib.hid hN
  have HL := Lib.hid hlen
  have HF := Lib.hid hF
  have hN12 : 12 ≤ N := by omega
  have hNl : N ≤ 6000 := by omega
  clear hUe hN hF hlen
  have k14 := hb.cell 14 _ rfl
  go_enter Tryz.func106, Tryz.ntmps106
  go_wp2_with (first | (go_at_call 109; (with_reducible refine hc109.mono ?_); rintro e w' ⟨rfl, rfl⟩) | (refine wpl_makeB rfl _ _ rfl _ _ _ N rfl rfl rfl (by omega) ?_))
  intro g w1 hgl hbuf hg1'
  have hgb : g ≠ b := by have := hb.lt; omega
  rw [← fill_nil] at hbuf
  clear k14 hc109
  go_wp2
  have hcut := cutbuf1 g 0 N N 0 rfl (by omega) (by omega)
  have ec := fun w' (h : Grow w1.drew w') => (hb.grow (hg1'.trans (grow_drew h))).cell 8 _ rfl
  (refine wp_region_calmK 7 202 Tryz.mixed rfl (by kernel_rfl) (fun T hT => ?_); simp only [List.take_succ_cons, List.take_zero, List.drop_succ_cons, List.drop_zero] at hT ⊢)
  iterate 7 (apply calm_val (D' := []) (hD := rfl); (· intro wZ1 hwZ1; simp only [fillAll]; go_simp; exact ⟨rfl, Grow.refl _⟩); simp only [Act.put, List.setIfInBounds_toArray, List.set_cons_succ, List.set_cons_zero])
  (intro w2 hwQ; simp only [fillAll]; refine hT _ _ ?_; clear hT T)
  have hbufQ := hbuf.grow (grow_drew hwQ)
  have hg2' := hg1'.trans (grow_drew hwQ)
  clear hwQ ec hcut hbuf hg1'
  go_wp2_with (go_loud (go_at_call 41; (with_reducible refine (fillP32 g 0 N N N [] tsn w2 hbufQ (by omega) rfl (by omega) (by omega) (by omega)).mono ?_); rintro e w3 ⟨rfl, hbuf, hoR⟩))
  have hg3' := hoR.below hg2' hgl
  clear hbufQ hg2' hoR
  have hcut := cutbuf1 g 4 (N - 4) N 4 rfl (by omega) (by omega)
  have ec := fun w' (h : Grow w3.drew w') => (hb.grow (hg3'.trans (grow_drew h))).cell 9 _ rfl
  (refine wp_region_calmK 7 202 Tryz.mixed rfl (by kernel_rfl) (fun T hT => ?_); simp only [List.take_succ_cons, List.take_zero, List.drop_succ_cons, List.drop_zero] at hT ⊢)
  iterate 7 (apply calm_val (D' := []) (hD := rfl); (· intro wZ1 hwZ1; simp only [fillAll]; go_simp; exact ⟨rfl, Grow.refl _⟩); simp only [Act.put, List.setIfInBounds_toArray, List.set_cons_succ, List.set_cons_zero])
  (intro w4 hwQ; simp only [fillAll]; refine hT _ _ ?_; clear hT T)
  have hbufQ := hbuf.grow (grow_drew hwQ)
  have hg4' := hg3'.trans (grow_drew hwQ)
  clear hwQ ec hcut hbuf hg3'
  go_wp2_with (go_loud (go_at_call 40; (with_reducible refine (fillP16 g 4 (N - 4) (N - 4) N ([] ++ be4 tsn) sid w4 hbufQ (by omega) rfl (by omega) (by omega) (by omega)).mono ?_); rintro e w5 ⟨rfl, hbuf, hoR⟩))
  have hg5' := hoR.below hg4' hgl
  clear hbufQ hg4' hoR
  have hcut := cutbuf1 g 6 (N - 6) N 6 rfl (by omega) (by omega)
  have ec := fun w' (h : Grow w5.drew w') => (hb.grow (hg5'.trans (grow_drew h))).cell 10 _ rfl
  (refine wp_region_calmK 7 202 Tryz.mixed rfl (by kernel_rfl) (fun T hT => ?_); simp only [List.take_succ_cons, List.take_zero, List.drop_succ_cons, List.drop_zero] at hT ⊢)
  iterate 7 (apply calm_val (D' := []) (hD := rfl); (· intro wZ1 hwZ1; simp only [fillAll]; go_simp; exact ⟨rfl, Grow.refl _⟩); simp only [Act.put, List.setIfInBounds_toArray, List.set_cons_succ, List.set_cons_zero])
  (intro w6 hwQ; simp only [fillAll]; refine hT _ _ ?_; clear hT T)
  have hbufQ := hbuf.grow (grow_drew hwQ)
  have hg6' := hg5'.trans (grow_drew hwQ)
  clear hwQ ec hcut hbuf hg5'
  go_wp2_with (go_loud (go_at_call 40; (with_reducible refine (fillP16 g 6 (N - 6) (N - 6) N ([] ++ be4 tsn ++ be2 sid) seq w6 hbufQ (by omega) rfl (by omega) (by omega) (by omega)).mono ?_); rintro e w7 ⟨rfl, hbuf, hoR⟩))
  have hg7' := hoR.below hg6' hgl
  clear hbufQ hg6' hoR
  have hcut := cutbuf1 g 8 (N - 8) N 8 rfl (by omega) (by omega)
  have ec := fun w' (h : Grow w7.drew w') => (hb.grow (hg7'.trans (grow_drew h))).cell 13 _ rfl
  (refine wp_region_calmK 7 202 Tryz.mixed rfl (by kernel_rfl) (fun T hT => ?_); simp only [List.take_succ_cons, List.take_zero, List.drop_succ_cons, List.drop_zero] at hT ⊢)
  iterate 7 (apply calm_val (D' := []) (hD := rfl); (· intro wZ1 hwZ1; simp only [fillAll]; go_simp; exact ⟨rfl, Grow.refl _⟩); simp only [Act.put, List.setIfInBounds_toArray, List.set_cons_succ, List.set_cons_zero])
  (intro w8 hwQ; simp only [fillAll]; refine hT _ _ ?_; clear hT T)
  have hbufQ := hbuf.grow (grow_drew hwQ)
  have hg8' := hg7'.trans (grow_drew hwQ)
  clear hwQ ec hcut hbuf hg7'
  go_wp2_with (go_loud (go_at_call 41; (with_reducible refine (fillP32 g 8 (N - 8) (N - 8) N ([] ++ be4 tsn ++ be2 sid ++ be2 seq) ppi w8 hbufQ (by omega) rfl (by omega) (by omega) (by omega)).mono ?_); rintro e w9 ⟨rfl, hbuf, hoR⟩))
  have hg9' := hoR.below hg8' hgl
  clear hbufQ hg8' hoR
  obtain ⟨hd, hhd⟩ : ∃ hd, hd = [] ++ be4 tsn ++ be2 sid ++ be2 seq ++ be4 ppi := ⟨_, rfl⟩
  have hdl : hd.length = 12 := by rw [hhd]; rfl
  rw [← hhd] at hbuf
  have HD := Lib.hid hhd
  clear hhd
  obtain ⟨ad, had, hcut⟩ := cutbuf g 12 U N 12 rfl (by rw [HL.out])
  have ec := fun w' (h : Grow w9.drew w') => (hb.grow (hg9'.trans (grow_drew h))).cell 14 _ rfl
  (refine wp_region_calmK 6 202 Tryz.mixed rfl (by kernel_rfl) (fun T hT => ?_); simp only [List.take_succ_cons, List.take_zero, List.drop_succ_cons, List.drop_zero] at hT ⊢)
  iterate 6 (apply calm_val (D' := []) (hD := rfl); (· intro wZ1 hwZ1; simp only [fillAll]; go_simp; exact ⟨rfl, Grow.refl _⟩); simp only [Act.put, List.setIfInBounds_toArray, List.set_cons_succ, List.set_cons_zero])
  (intro w10 hwQ; simp only [fillAll]; refine hT _ _ ?_; clear hT T)
  have hbufQ := hbuf.grow (grow_drew hwQ)
  have hg10' := hg9'.trans (grow_drew hwQ)
  clear hwQ ec hcut hbuf hg9'
  have hfl0 := fill_length N hd (by omega)
  go_upto_region 31 with (refine wpl_copyB rfl _ _ rfl g 12 U U ad (fill N hd) _ user rfl had rfl hbufQ (hu.grow hg10') (by rw [← HU.out]; exact Nat.le_refl _) (by rw [← HU.out, hfl0, HL.out]; exact Nat.le_refl _) ?_; intro w11 hbuf hoR; generalize user.length = ul)
  have hg11 := hoR.below hg10' hgl
  rw [fill_put N 12 hd user hdl (by rw [← HU.out, HL.out]; exact Nat.le_refl _)] at hbuf
  have hall : fill N (hd ++ user) = dataB tsn sid seq ppi user := by
    rw [HD.out]
    have e : [] ++ be4 tsn ++ be2 sid ++ be2 seq ++ be4 ppi ++ user = dataB tsn sid seq ppi user := by simp only [dataB, List.nil_append, List.append_assoc]
    rw [e, fill_full _ _ HN.out.symm]
  rw [hall] at hbuf
  clear hall hfl0 hoR hbufQ hg10' had
  have hb11 := hb.grow hg11
  have k6 := hb11.cell 6 _ rfl
  have k5 := hb11.cell 5 _ rfl
  have k4 := hb11.cell 4 _ rfl
  have k7 := hb11.cell 7 _ rfl
  clear hb
  go_upto_if 163 with fail
  go_cut [7] from 163 to 164 (fun c w' => c = .int .u8 (f1 : Nat) ∧ w11 = w')
  case first =>
    cases en
    · have q := p1 rfl
      clear o1 p1 o2 p2 o3 p3 o4 p4
      go_wp2
      go_meet
      exact ⟨by rw [← q], rfl⟩
    · have q := o1 rfl
      clear o1 p1 o2 p2 o3 p3 o4 p4
      go_wp2
      go_meet
      exact ⟨by rw [← q], rfl⟩
  case rest =>
  obtain ⟨rfl, rfl⟩ := hcut
  clear k6 o1 p1
  go_upto_if 167 with fail
  go_cut [7] from 167 to 170 (fun c w' => c = .int .u8 (f2 : Nat) ∧ w11 = w')
  case first =>
    cases be
    · have q := p2 rfl
      clear o2 p2 o3 p3 o4 p4
      go_wp2
      go_meet
      exact ⟨by rw [← q], rfl⟩
    · have q := o2 rfl
      clear o2 p2 o3 p3 o4 p4
      go_wp2
      go_meet
      exact ⟨by rw [← q], rfl⟩
  case rest =>
  obtain ⟨rfl, rfl⟩ := hcut
  clear k5 o2 p2
  go_upto_if 173 with fail
  go_cut [7] from 173 to 176 (fun c w' => c = .int .u8 (f3 : Nat) ∧ w11 = w')
  case first =>
    cases un
    · have q := p3 rfl
      clear o3 p3 o4 p4
      go_wp2
      go_meet
      exact ⟨by rw [← q], rfl⟩
    · have q := o3 rfl
      clear o3 p3 o4 p4
      go_wp2
      go_meet
      exact ⟨by rw [← q], rfl⟩
  case rest =>
  obtain ⟨rfl, rfl⟩ := hcut
  clear k4 o3 p3
  go_upto_if 179 with fail
  go_cut [7] from 179 to 182 (fun c w' => c = .int .u8 (F : Nat) ∧ w11 = w')
  case first =>
    cases im
    · have q := p4 rfl
      clear o4 p4
      go_wp2
      go_meet
      exact ⟨by rw [← q], rfl⟩
    · have q := o4 rfl
      clear o4 p4
      go_wp2
      go_meet
      exact ⟨by rw [← q], rfl⟩
  case rest =>
  obtain ⟨rfl, rfl⟩ := hcut
  clear k7 o4 p4
  have f0 := hb11.free 0
  have f1 := hb11.free 1
  have f2 := hb11.free 2
  have k0 := hb11.cell 0 _ rfl
  have k1 := hb11.cell 1 _ rfl
  have k2 := hb11.cell 2 _ rfl
  have hb2 := ((hb11.set 1 (.int .u8 F)).set 0 (.int .u8 0)).set 2 (.slice (some ⟨g, 0, none⟩) N N)
  have hbuf2 := ((hbuf.set_other 1 (.int .u8 F) hgb).set_other 0 (.int .u8 0) hgb).set_other 2 (.slice (some ⟨g, 0, none⟩) N N) hgb
  have ho2 : Only b w (((w11.setCell ⟨b, 1, none⟩ (.int .u8 F)).setCell ⟨b, 0, none⟩ (.int .u8 0)).setCell ⟨b, 2, none⟩ (.slice (some ⟨g, 0, none⟩) N N)) := (((Only.of_grow hg11).trans (Only.setCell _ _ _ _)).trans (Only.setCell _ _ _ _)).trans (Only.setCell _ _ _ _)
  have hrd := (OwnB.of_blk hbuf2 (Nat.zero_le _) (by rw [← HN.out]; omega)).rd
  rw [← HN.out] at hrd
  have hc69 := headMarshal_any b 104 0 F _ (dataB tsn sid seq ppi user) _ _ hb2 hrd (by omega) (by omega) (by rw [← HN.out]; omega)
  rw [← HN.out] at hc69
  clear hb2 hbuf2 hrd
  go_wp2_with (go_loud (go_at_call 69; (with_reducible refine hc69.mono ?_); rintro e w12 ⟨g', rfl, hle', hblk, hg12⟩))
  go_ret2
  exact ⟨g', rfl, Nat.le_trans ho2.size hle', hblk, ho2.grow hg12⟩
end Go.Proofs.YtdpmbchamefkmaaGreatDoor
