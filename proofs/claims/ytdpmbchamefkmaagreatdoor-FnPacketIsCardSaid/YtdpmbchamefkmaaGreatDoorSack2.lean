/-
A selective acknowledgement written.
-/
import Derived.Test.YtdpmbchamefkmaaGreatDoorSack0
namespace Go.Proofs.YtdpmbchamefkmaaGreatDoor
open Go.RowKit

set_option maxRecDepth 100000 in
set_option maxHeartbeats 2000000 in
theorem sackMarshal_any (b tsn win : Nat) (gaps : List (Nat × Nat)) (dups : List Nat) (ra : Option Addr) (rn rc g1 g2 : Nat) (w : World)
    (hb : Blk w b 108 [.int .u8 3, .int .u8 0, .slice ra rn rc, .int .u32 tsn, .int .u32 win, .slice (some ⟨g1, 0, none⟩) gaps.length gaps.length, .slice (some ⟨g2, 0, none⟩) dups.length dups.length])
    (hr1 : Blk w g1 242 (gapCells gaps)) (hr2 : Blk w g2 22 (dupCells dups)) (_ : g1 ≠ b) (_ : g2 ≠ b)
    (htsn : tsn < 4294967296) (hwin : win < 4294967296) (hgaps : ∀ p ∈ gaps, p.1 < 65536 ∧ p.2 < 65536) (hdups : ∀ n ∈ dups, n < 4294967296) (hG : gaps.length ≤ 1000) (hD : dups.length ≤ 1000) :
    Calls Tryz.prog 111 #[.pointer (some ⟨b, 0, none⟩)] w fun e w' => ∃ g, e = .returned (.tuple #[.slice (some ⟨g, 0, none⟩) (4 + (sackB tsn win gaps dups).length) (4 + (sackB tsn win gaps dups).length), .nilIface]) ∧ w.heap.size ≤ g ∧
      Blk w' g 5 (bc (chunkB 3 0 (sackB tsn win gaps dups))) ∧ Only b w w' := by
  have hlen := sackB_length tsn win gaps dups
  obtain ⟨G, hGe⟩ : ∃ G, G = gaps.length := ⟨_, rfl⟩
  obtain ⟨D, hDe⟩ : ∃ D, D = dups.length := ⟨_, rfl⟩
  obtain ⟨N, hN⟩ : ∃ N, N = (sackB tsn win gaps dups).length := ⟨_, rfl⟩
  rw [← hN]
  rw [← hN, ← hGe, ← hDe] at hlen
  rw [← hGe, ← hDe] at hb
  have n1 : IntKind.i64.wrap (4 * (G : Int)) = 4 * (G : Int) := by rw [IntKind.wrap_i64]; omega
  have n2 : IntKind.i64.wrap (4 * (D : Int)) = 4 * (D : Int) := by rw [IntKind.wrap_i64]; omega
  have n3 : IntKind.i64.wrap (4 * (G : Int) + 4 * (D : Int)) = 4 * (G : Int) + 4 * (D : Int) := by rw [IntKind.wrap_i64]; omega
  have n4 : IntKind.i64.wrap (12 + (4 * (G : Int) + 4 * (D : Int))) = 12 + (4 * (G : Int) + 4 * (D : Int)) := by rw [IntKind.wrap_i64]; omega
  have u1 : IntKind.u16.wrap (G : Int) = (G : Int) := by rw [IntKind.wrap_u16]; omega
  have u2 : IntKind.u16.wrap (D : Int) = (D : Int) := by rw [IntKind.wrap_u16]; omega
  have HGe := Lib.hid hGe
  have HDe := Lib.hid hDe
  have HN := Lib.hid hN
  have HL := Lib.hid hlen
  have hG1 : G ≤ 1000 := by omega
  have hD1 : D ≤ 1000 := by omega
  have hN12 : 12 ≤ N := by omega
  have hNl : N ≤ 9000 := by omega
  have hmk := fun w' => run_makeZ N (by omega) w' (12 + (4 * (G : Int) + 4 * (D : Int))) (by omega)
  clear hGe hDe hN hlen
  go_enter Tryz.func111, Tryz.ntmps111
  go_wp2
  have e5 := fun w' (h : Grow w.drew w') => (hb.grow (grow_drew h)).cell 5 _ rfl
  have e6 := fun w' (h : Grow w.drew w') => (hb.grow (grow_drew h)).cell 6 _ rfl
  (refine wp_region_calmK 15 121 Tryz.mixed rfl (by kernel_rfl) (fun T hT => ?_); simp only [List.take_succ_cons, List.take_zero, List.drop_succ_cons, List.drop_zero] at hT ⊢)
  iterate 14 (apply calm_val (D' := []) (hD := rfl); (· intro wZ1 hwZ1; simp only [fillAll]; go_simp; exact ⟨rfl, Grow.refl _⟩); simp only [Act.put, List.setIfInBounds_toArray, List.set_cons_succ, List.set_cons_zero])
  refine calm_new [] (NewRow w.heap.size 5 N (bc (fill N []))) 24 rfl rfl (NewRow.stable _ _ _ _) (fun w3 hw3 => ?_) ?_
  · simp only [fillAll]
    go_simp
    exact ⟨⟨_, rfl, (grow_drew hw3).size, Blk.new _ _ _⟩, grow_alloc _ _⟩
  intro w1 hw1
  simp only [fillAll]
  rintro u ⟨g, rfl, hgl, hbuf⟩
  simp only [Act.put, List.setIfInBounds_toArray, List.set_cons_succ, List.set_cons_zero]
  refine hT _ _ ?_
  clear hT T
  have hg1' := grow_drew hw1
  have hgb : g ≠ b := by have := hb.lt; omega
  clear hw1 e5 e6 hmk
  go_wp2
  have hcut := cutbuf1 g 0 N N 0 rfl (by omega) (by omega)
  have ec := fun w' (h : Grow w1.drew w') => (hb.grow (hg1'.trans (grow_drew h))).cell 3 _ rfl
  (refine wp_region_calmK 7 121 Tryz.mixed rfl (by kernel_rfl) (fun T hT => ?_); simp only [List.take_succ_cons, List.take_zero, List.drop_succ_cons, List.drop_zero] at hT ⊢)
  iterate 7 (apply calm_val (D' := []) (hD := rfl); (· intro wZ1 hwZ1; simp only [fillAll]; go_simp; exact ⟨rfl, Grow.refl _⟩); simp only [Act.put, List.setIfInBounds_toArray, List.set_cons_succ, List.set_cons_zero])
  (intro w2 hwQ; simp only [fillAll]; refine hT _ _ ?_; clear hT T)
  have hbufQ := hbuf.grow (grow_drew hwQ)
  have hg2' := hg1'.trans (grow_drew hwQ)
  clear hwQ ec hcut hbuf hg1'
  go_wp2_with (go_loud (go_at_call 41; (with_reducible refine (fillP32 g 0 N N N [] tsn w2 hbufQ (by omega) rfl (by omega) (by omega) (by omega)).mono ?_); rintro e w3 ⟨rfl, hbuf, hoR⟩))
  have hg3' := hoR.below hg2' hgl
  clear hbufQ hg2' hoR
  
  have hcut := cutbuf1 g 4 (N - 4) N 4 rfl (by omega) (by omega)
  have ec := fun w' (h : Grow w3.drew w') => (hb.grow (hg3'.trans (grow_drew h))).cell 4 _ rfl
  (refine wp_region_calmK 7 121 Tryz.mixed rfl (by kernel_rfl) (fun T hT => ?_); simp only [List.take_succ_cons, List.take_zero, List.drop_succ_cons, List.drop_zero] at hT ⊢)
  iterate 7 (apply calm_val (D' := []) (hD := rfl); (· intro wZ1 hwZ1; simp only [fillAll]; go_simp; exact ⟨rfl, Grow.refl _⟩); simp only [Act.put, List.setIfInBounds_toArray, List.set_cons_succ, List.set_cons_zero])
  (intro w4 hwQ; simp only [fillAll]; refine hT _ _ ?_; clear hT T)
  have hbufQ := hbuf.grow (grow_drew hwQ)
  have hg4' := hg3'.trans (grow_drew hwQ)
  clear hwQ ec hcut hbuf hg3'
  go_wp2_with (go_loud (go_at_call 41; (with_reducible refine (fillP32 g 4 (N - 4) (N - 4) N ([] ++ be4 tsn) win w4 hbufQ (by omega) rfl (by omega) (by omega) (by omega)).mono ?_); rintro e w5 ⟨rfl, hbuf, hoR⟩))
  have hg5' := hoR.below hg4' hgl
  clear hbufQ hg4' hoR
  
  have hcut := cutbuf1 g 8 (N - 8) N 8 rfl (by omega) (by omega)
  have ec := fun w' (h : Grow w5.drew w') => (hb.grow (hg5'.trans (grow_drew h))).cell 5 _ rfl
  (refine wp_region_calmK 9 121 Tryz.mixed rfl (by kernel_rfl) (fun T hT => ?_); simp only [List.take_succ_cons, List.take_zero, List.drop_succ_cons, List.drop_zero] at hT ⊢)
  iterate 9 (apply calm_val (D' := []) (hD := rfl); (· intro wZ1 hwZ1; simp only [fillAll]; go_simp; exact ⟨rfl, Grow.refl _⟩); simp only [Act.put, List.setIfInBounds_toArray, List.set_cons_succ, List.set_cons_zero])
  (intro w6 hwQ; simp only [fillAll]; refine hT _ _ ?_; clear hT T)
  have hbufQ := hbuf.grow (grow_drew hwQ)
  have hg6' := hg5'.trans (grow_drew hwQ)
  clear hwQ ec hcut hbuf hg5'
  go_wp2_with (go_loud (go_at_call 40; (with_reducible refine (fillP16 g 8 (N - 8) (N - 8) N ([] ++ be4 tsn ++ be4 win) G w6 hbufQ (by omega) rfl (by omega) (by omega) (by omega)).mono ?_); rintro e w7 ⟨rfl, hbuf, hoR⟩))
  have hg7' := hoR.below hg6' hgl
  clear hbufQ hg6' hoR
  
  have hcut := cutbuf1 g 10 (N - 10) N 10 rfl (by omega) (by omega)
  have ec := fun w' (h : Grow w7.drew w') => (hb.grow (hg7'.trans (grow_drew h))).cell 6 _ rfl
  (refine wp_region_calmK 9 121 Tryz.mixed rfl (by kernel_rfl) (fun T hT => ?_); simp only [List.take_succ_cons, List.take_zero, List.drop_succ_cons, List.drop_zero] at hT ⊢)
  iterate 9 (apply calm_val (D' := []) (hD := rfl); (· intro wZ1 hwZ1; simp only [fillAll]; go_simp; exact ⟨rfl, Grow.refl _⟩); simp only [Act.put, List.setIfInBounds_toArray, List.set_cons_succ, List.set_cons_zero])
  (intro w8 hwQ; simp only [fillAll]; refine hT _ _ ?_; clear hT T)
  have hbufQ := hbuf.grow (grow_drew hwQ)
  have hg8' := hg7'.trans (grow_drew hwQ)
  clear hwQ ec hcut hbuf hg7'
  go_wp2_with (go_loud (go_at_call 40; (with_reducible refine (fillP16 g 10 (N - 10) (N - 10) N ([] ++ be4 tsn ++ be4 win ++ be2 G) D w8 hbufQ (by omega) rfl (by omega) (by omega) (by omega)).mono ?_); rintro e w9 ⟨rfl, hbuf, hoR⟩; have k5 := (hb.grow (hoR.below hg8' hgl)).cell 5 _ rfl))
  have hg9' := hoR.below hg8' hgl
  clear hbufQ hg8' hoR
  
  clear k5
  obtain ⟨hd, hhd⟩ : ∃ hd, hd = [] ++ be4 tsn ++ be4 win ++ be2 G ++ be2 D := ⟨_, rfl⟩
  have hdl : hd.length = 12 := by rw [hhd]; rfl
  rw [← hhd] at hbuf
  have HD := Lib.hid hhd
  clear hhd
  go_loopw [5, 66] (fun t i wr => ∃ k : Nat, k ≤ G ∧ i = .int .i64 k ∧ t = .int .i64 (12 + 4 * (k : Int)) ∧ Blk wr g 5 (bc (fill N (hd ++ ((gaps.take k).map gapB).flatten))) ∧ Grow w wr) (fun _ i _ => G - (intOf i).toNat)
  case atStart => exact ⟨0, by omega, rfl, rfl, by simpa using hbuf, hg9'⟩
  case round =>
    clear hbuf hg9'
    obtain ⟨k, hk, rfl, rfl, hbuf, hgr⟩ := hrel
    by_cases hlt : k < G
    · have hkg : k < gaps.length := by rw [← HGe.out]; exact hlt
      have hp := hgaps gaps[k] (List.getElem_mem hkg)
      have hcell := gapCells_get gaps k hkg
      have htake : (hd ++ ((gaps.take k).map gapB).flatten) ++ be2 gaps[k].1 ++ be2 gaps[k].2 = hd ++ ((gaps.take (k + 1)).map gapB).flatten := by
        rw [List.take_add_one, List.getElem?_eq_getElem hkg, List.map_append, List.flatten_append]
        simp only [Option.toList_some, List.map_cons, List.map_nil, List.flatten_cons, List.flatten_nil, List.append_nil, gapB, List.append_assoc]
      have hdk : (hd ++ ((gaps.take k).map gapB).flatten).length = 12 + 4 * k := by rw [List.length_append, hdl, gaps_length, List.length_take, Nat.min_eq_left (by omega)]
      obtain ⟨x, hx⟩ : ∃ x, x = gaps[k].1 := ⟨_, rfl⟩
      obtain ⟨y, hy⟩ : ∃ y, y = gaps[k].2 := ⟨_, rfl⟩
      rw [← hx, ← hy] at htake hp hcell
      clear hx hy hkg
      rw [Nat.mul_comm 2 k] at hcell
      have k0 := (hr1.grow hgr).cell _ _ hcell.1
      have k1 := (hr1.grow hgr).cell _ _ hcell.2
      have HT := Lib.hid htake
      clear htake hcell
      obtain ⟨d0, hd0⟩ : ∃ d0, d0 = hd ++ ((gaps.take k).map gapB).flatten := ⟨_, rfl⟩
      rw [← hd0] at hbuf HT hdk
      clear hd0
      have n5 : IntKind.i64.wrap (12 + 4 * (k : Int) + 2) = 12 + 4 * (k : Int) + 2 := by rw [IntKind.wrap_i64]; omega
      have n6 : IntKind.i64.wrap (12 + 4 * (k : Int) + 4) = 12 + 4 * (k : Int) + 4 := by rw [IntKind.wrap_i64]; omega
      have hltI : (k : Int) < (G : Int) := by omega
      go_wp2
      have hgh : g < wr.heap.size := hbuf.lt
      have hbh := Blk.new wr 242 [.int .u16 (x : Nat), .int .u16 (y : Nat)]
      obtain ⟨h, hh⟩ : ∃ h, h = wr.heap.size := ⟨_, rfl⟩
      rw [← hh] at hbh hgh ⊢
      refine wp_at (fun w' => Blk w' h 242 [.int .u16 (x : Nat), .int .u16 (y : Nat)] ∧ Blk w' g 5 (bc (fill N d0)) ∧ Grow w w') ⟨hbh, hbuf.alloc _, hgr.trans (grow_alloc _ _)⟩ ?_
      clear hbh hbuf hgr k0 k1 hh
      rintro w10 ⟨hbh, hbuf, hg10⟩
      have hcut := cutbuf1 g (12 + 4 * k) (N - (12 + 4 * k)) N (12 + 4 * (k : Int)) (by simp) (by have := HL.out; omega) (by have := HL.out; omega)
      have hm1 : 12 + 4 * k + 4 ≤ N := by have := HL.out; omega
      have e0 := fun w' (h' : Grow w10.drew w') => (hbh.grow (grow_drew h')).cell 0 _ rfl
      (refine wp_region_calmK 6 121 Tryz.mixed rfl (by kernel_rfl) (fun T hT => ?_); simp only [List.take_succ_cons, List.take_zero, List.drop_succ_cons, List.drop_zero] at hT ⊢)
      iterate 6 (apply calm_val (D' := []) (hD := rfl); (· intro wZ1 hwZ1; simp only [fillAll]; go_simp; exact ⟨rfl, Grow.refl _⟩); simp only [Act.put, List.setIfInBounds_toArray, List.set_cons_succ, List.set_cons_zero])
      (intro w11 hw11; simp only [fillAll]; refine hT _ _ ?_; clear hT T)
      have hbuf11 := hbuf.grow (grow_drew hw11)
      have hbh11 := hbh.grow (grow_drew hw11)
      have hg11 := hg10.trans (grow_drew hw11)
      clear hw11 e0 hcut hbuf hbh hg10
      go_wp2_with (go_loud (go_at_call 40; (with_reducible refine (fillP16 g (12 + 4 * k) (N - (12 + 4 * k)) (N - (12 + 4 * k)) N d0 x w11 hbuf11 (by omega) hdk (by omega) (by omega) (by omega)).mono ?_); rintro e w12 ⟨rfl, hbuf, ho12⟩))
      have hg12 := ho12.below hg11 hgl
      have hbh := hbh11.only ho12 (by omega)
      clear hbuf11 hbh11 hg11 ho12
      have hcut := cutbuf1 g (12 + 4 * k + 2) (N - (12 + 4 * k + 2)) N (12 + 4 * (k : Int) + 2) (by simp) (by omega) (by omega)
      have e0 := fun w' (h' : Grow w12.drew w') => (hbh.grow (grow_drew h')).cell 1 _ rfl
      (refine wp_region_calmK 7 121 Tryz.mixed rfl (by kernel_rfl) (fun T hT => ?_); simp only [List.take_succ_cons, List.take_zero, List.drop_succ_cons, List.drop_zero] at hT ⊢)
      iterate 7 (apply calm_val (D' := []) (hD := rfl); (· intro wZ1 hwZ1; simp only [fillAll]; go_simp; exact ⟨rfl, Grow.refl _⟩); simp only [Act.put, List.setIfInBounds_toArray, List.set_cons_succ, List.set_cons_zero])
      (intro w13 hw13; simp only [fillAll]; refine hT _ _ ?_; clear hT T)
      have hbuf13 := hbuf.grow (grow_drew hw13)
      have hg13 := hg12.trans (grow_drew hw13)
      clear hw13 e0 hcut hbuf hbh hg12
      go_wp2_with (go_loud (go_at_call 40; (with_reducible refine (fillP16 g (12 + 4 * k + 2) (N - (12 + 4 * k + 2)) (N - (12 + 4 * k + 2)) N (d0 ++ be2 x) y w13 hbuf13 (by omega) (by rw [List.length_append, hdk, be2_length]) (by omega) (by omega) (by omega)).mono ?_); rintro e w14 ⟨rfl, hbuf, ho14⟩))
      have hg14 := ho14.below hg13 hgl
      rw [HT.out] at hbuf
      go_roundw
      case rel => exact ⟨k + 1, by omega, by go_num, by go_num, hbuf, hg14⟩
      case measure => simp [intOf]; omega
    · obtain rfl : G = k := by omega
      have k6 := (hb.grow hgr).cell 6 _ rfl
      go_wp2
      clear k6
      have hge : hd ++ ((gaps.take G).map gapB).flatten = hd ++ (gaps.map gapB).flatten := by rw [HGe.out, List.take_length]
      rw [hge] at hbuf
      clear hge
      obtain ⟨hd2, hhd2⟩ : ∃ d, d = hd ++ (gaps.map gapB).flatten := ⟨_, rfl⟩
      have hdl2 : hd2.length = 12 + 4 * G := by rw [hhd2, List.length_append, hdl, gaps_length, HGe.out]
      rw [← hhd2] at hbuf
      have HD2 := Lib.hid hhd2
      clear hhd2
      go_loopw [5, 93] (fun t i wr => ∃ k : Nat, k ≤ D ∧ i = .int .i64 k ∧ t = .int .i64 (12 + 4 * (G : Int) + 4 * (k : Int)) ∧ Blk wr g 5 (bc (fill N (hd2 ++ ((dups.take k).map be4).flatten))) ∧ Grow w wr) (fun _ i _ => D - (intOf i).toNat)
      case atStart => exact ⟨0, by omega, rfl, by go_num, by simpa using hbuf, hgr⟩
      case round =>
        clear hbuf hgr
        obtain ⟨k, hk, rfl, rfl, hbuf, hgr⟩ := hrel
        by_cases hlt : k < D
        · have hkd : k < dups.length := by rw [← HDe.out]; exact hlt
          have hp := hdups dups[k] (List.getElem_mem hkd)
          have hcell := dupCells_get dups k hkd
          have htake : (hd2 ++ ((dups.take k).map be4).flatten) ++ be4 dups[k] = hd2 ++ ((dups.take (k + 1)).map be4).flatten := by
            rw [List.take_add_one, List.getElem?_eq_getElem hkd, List.map_append, List.flatten_append]
            simp only [Option.toList_some, List.map_cons, List.map_nil, List.flatten_cons, List.flatten_nil, List.append_nil, List.append_assoc]
          have hdk : (hd2 ++ ((dups.take k).map be4).flatten).length = 12 + 4 * G + 4 * k := by rw [List.length_append, hdl2, dups_length, List.length_take, Nat.min_eq_left (by omega)]
          obtain ⟨x, hx⟩ : ∃ x, x = dups[k] := ⟨_, rfl⟩
          rw [← hx] at htake hp hcell
          clear hx hkd
          have k0 := (hr2.grow hgr).cell _ _ hcell
          have HT := Lib.hid htake
          clear htake hcell
          obtain ⟨d0, hd0⟩ : ∃ d0, d0 = hd2 ++ ((dups.take k).map be4).flatten := ⟨_, rfl⟩
          rw [← hd0] at hbuf HT hdk
          clear hd0
          have n6 : IntKind.i64.wrap (12 + 4 * (G : Int) + 4 * (k : Int) + 4) = 12 + 4 * (G : Int) + 4 * (k : Int) + 4 := by rw [IntKind.wrap_i64]; omega
          have hltI : (k : Int) < (D : Int) := by omega
          go_wp2
          clear k0
          have hcut := cutbuf1 g (12 + 4 * G + 4 * k) (N - (12 + 4 * G + 4 * k)) N (12 + 4 * (G : Int) + 4 * (k : Int)) (by simp) (by have := HL.out; omega) (by have := HL.out; omega)
          have hm1 : 12 + 4 * G + 4 * k + 4 ≤ N := by have := HL.out; omega
          (refine wp_region_calmK 5 121 Tryz.mixed rfl (by kernel_rfl) (fun T hT => ?_); simp only [List.take_succ_cons, List.take_zero, List.drop_succ_cons, List.drop_zero] at hT ⊢)
          iterate 5 (apply calm_val (D' := []) (hD := rfl); (· intro wZ1 hwZ1; simp only [fillAll]; go_simp; exact ⟨rfl, Grow.refl _⟩); simp only [Act.put, List.setIfInBounds_toArray, List.set_cons_succ, List.set_cons_zero])
          (intro w11 hw11; simp only [fillAll]; refine hT _ _ ?_; clear hT T)
          have hbuf11 := hbuf.grow (grow_drew hw11)
          have hg11 := hgr.trans (grow_drew hw11)
          clear hw11 hcut hbuf hgr
          go_wp2_with (go_loud (go_at_call 41; (with_reducible refine (fillP32 g (12 + 4 * G + 4 * k) (N - (12 + 4 * G + 4 * k)) (N - (12 + 4 * G + 4 * k)) N d0 x w11 hbuf11 (by omega) hdk (by omega) (by omega) (by omega)).mono ?_); rintro e w12 ⟨rfl, hbuf, ho12⟩))
          have hg12 := ho12.below hg11 hgl
          rw [HT.out] at hbuf
          go_roundw
          case rel => exact ⟨k + 1, by omega, by go_num, by go_num, hbuf, hg12⟩
          case measure => simp [intOf]; omega
        · obtain rfl : D = k := by omega
          have hall : fill N (hd2 ++ ((dups.take D).map be4).flatten) = sackB tsn win gaps dups := by
            rw [HDe.out, List.take_length, HD2.out, HD.out]
            have e : [] ++ be4 tsn ++ be4 win ++ be2 G ++ be2 D ++ (gaps.map gapB).flatten ++ (dups.map be4).flatten = sackB tsn win gaps dups := by
              rw [HGe.out, HDe.out]; simp only [sackB, List.nil_append, List.append_assoc]
            rw [e, fill_full _ _ HN.out.symm]
          rw [hall] at hbuf
          have hbr := hb.grow hgr
          have f0 := hbr.free 0
          have f2 := hbr.free 2
          have k0 := hbr.cell 0 _ rfl
          have k2 := hbr.cell 2 _ rfl
          have hb2 := (hbr.set 0 (.int .u8 3)).set 2 (.slice (some ⟨g, 0, none⟩) N N)
          have hbuf2 := (hbuf.set_other 0 (.int .u8 3) hgb).set_other 2 (.slice (some ⟨g, 0, none⟩) N N) hgb
          have ho2 : Only b w ((wr.setCell ⟨b, 0, none⟩ (.int .u8 3)).setCell ⟨b, 2, none⟩ (.slice (some ⟨g, 0, none⟩) N N)) := ((Only.of_grow hgr).trans (Only.setCell _ _ _ _)).trans (Only.setCell _ _ _ _)
          have hrd := (OwnB.of_blk hbuf2 (Nat.zero_le _) (by rw [← HN.out]; omega)).rd
          rw [← HN.out] at hrd
          have hc69 := headMarshal_any b 108 3 0 _ (sackB tsn win gaps dups) _ _ hb2 hrd (by omega) (by omega) (by rw [← HN.out]; omega)
          rw [← HN.out] at hc69
          clear hb2 hbuf2 hrd hall
          go_wp2_with (go_loud (go_at_call 69; (with_reducible refine hc69.mono ?_); rintro e w12 ⟨g', rfl, hle', hblk, hg12⟩))
          go_ret2
          exact ⟨g', rfl, Nat.le_trans ho2.size hle', hblk, ho2.grow hg12⟩
end Go.Proofs.YtdpmbchamefkmaaGreatDoor
