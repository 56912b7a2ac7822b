/-
A chunk that moves the number on, written.
-/
import Derived.Test.YtdpmbchamefkmaaGreatDoorFwd1
import Derived.Test.YtdpmbchamefkmaaGreatDoorZZ0
namespace Go.Proofs.YtdpmbchamefkmaaGreatDoor
open Go.RowKit

set_option maxRecDepth 100000 in
set_option maxHeartbeats 4000000 in
theorem fwdMarshal_any (b tsn : Nat) (ss : List (Nat × Nat)) (ra : Option Addr) (rn rc : Nat) (va : Option Addr) (vc : Nat) (w : World) (hb : Blk w b 117 [.int .u8 192, .int .u8 0, .slice ra rn rc, .int .u32 tsn, .slice va ss.length vc])
    (hr : Rd w 2 (.slice va ss.length vc) ss.length (gapCells ss)) (htsn : tsn < 4294967296) (hss : ∀ p ∈ ss, p.1 < 65536 ∧ p.2 < 65536) (hS : ss.length ≤ 1000) :
    Calls Tryz.prog 117 #[.pointer (some ⟨b, 0, none⟩)] w fun e w' => ∃ g, e = .returned (.tuple #[.slice (some ⟨g, 0, none⟩) (4 + (fwdB tsn ss).length) (4 + (fwdB tsn ss).length), .nilIface]) ∧ w.heap.size ≤ g ∧
      Blk w' g 5 (bc (chunkB 192 0 (fwdB tsn ss))) ∧ Only b w w' := by
  have hlen := fwdB_length tsn ss
  obtain ⟨S, hSe⟩ : ∃ S, S = ss.length := ⟨_, rfl⟩
  obtain ⟨N, hN⟩ : ∃ N, N = (fwdB tsn ss).length := ⟨_, rfl⟩
  rw [← hN]
  rw [← hN, ← hSe] at hlen
  rw [← hSe] at hb hr hS
  have HS := Lib.hid hSe
  have HN := Lib.hid hN
  have HL := Lib.hid hlen
  have hNl : N ≤ 5000 := by omega
  clear hSe hN hlen
  go_enter Tryz.func117, Tryz.ntmps117
  go_wp2_with (refine wpl_makeB rfl _ _ rfl _ _ _ 4 rfl rfl rfl (by omega) ?_)
  intro g w1 hgl hbuf hg1
  have hgb : g ≠ b := by have := hb.lt; omega
  rw [← fill_nil] at hbuf
  go_wp2
  have hcut := cutbuf1 g 0 4 4 0 rfl (by omega) (by omega)
  have ec := fun w' (h : Grow w1.drew w') => (hb.grow (hg1.trans (grow_drew h))).cell 3 _ rfl
  (refine wp_region_calmK 7 53 Tryz.mixed rfl (by kernel_rfl) (fun T hT => ?_); simp only [List.take_succ_cons, List.take_zero, List.drop_succ_cons, List.drop_zero] at hT ⊢)
  iterate 7 (apply calm_val (D' := []) (hD := rfl); (· intro wZ1 hwZ1; simp only [fillAll]; go_simp; exact ⟨rfl, Grow.refl _⟩); simp only [Act.put, List.setIfInBounds_toArray, List.set_cons_succ, List.set_cons_zero])
  (intro w2 hwQ; simp only [fillAll]; refine hT _ _ ?_; clear hT T)
  have hbufQ := hbuf.grow (grow_drew hwQ)
  have hg2 := hg1.trans (grow_drew hwQ)
  clear hwQ ec hcut hbuf hg1
  go_upto_region 3 with (go_loud (go_at_call 41; (with_reducible refine (fillP32 g 0 4 4 4 [] tsn w2 hbufQ (by omega) rfl (by omega) (by omega) (by omega)).mono ?_); rintro e w3 ⟨rfl, hbuf, hoR⟩))
  have hg3 := hoR.below hg2 hgl
  rw [List.nil_append, fill_full _ _ (be4_length tsn)] at hbuf
  have hown := OwnB.of_blk hbuf hgl (by rw [be4_length]; omega)
  rw [be4_length] at hown
  have k4 := (hb.grow hg3).cell 4 _ rfl
  clear hbufQ hg2 hoR hbuf
  go_wp2
  clear k4
  go_loopw [4, 23] (fun t i wr => ∃ (k : Nat) (oa : Option Addr) (m oc : Nat), k ≤ S ∧ i = .int .i64 k ∧ t = .slice oa m oc ∧ OwnB wr w.heap.size (.slice oa m oc) (be4 tsn ++ ((ss.take k).map gapB).flatten) ∧ Grow w wr) (fun _ i _ => S - (intOf i).toNat)
  case atStart => exact ⟨0, _, _, _, by omega, rfl, rfl, by simpa using hown, hg3⟩
  case round =>
    clear hown hg3
    obtain ⟨k, oa, m, oc, hk, rfl, rfl, hown, hgr⟩ := hrel
    by_cases hlt : k < S
    · have hkg : k < ss.length := by rw [← HS.out]; exact hlt
      have hp := hss ss[k] (List.getElem_mem hkg)
      obtain ⟨h0, h1⟩ := gapCells_get ss k hkg
      obtain ⟨g0, o, c, hv, _, hcell⟩ := Rd.at hr (by omega)
      have q0 := cell_grow hgr (hcell _ _ h0)
      have q1 := cell_grow hgr (hcell _ _ h1)
      simp only [Value.slice.injEq] at hv
      obtain ⟨rfl, hv2, rfl⟩ := hv
      have htk : (be4 tsn ++ ((ss.take k).map gapB).flatten) ++ (be2 ss[k].1 ++ be2 ss[k].2) = be4 tsn ++ ((ss.take (k + 1)).map gapB).flatten := by
        rw [List.take_add_one, List.getElem?_eq_getElem hkg, List.map_append, List.flatten_append]
        simp only [Option.toList_some, List.map_cons, List.map_nil, List.flatten_cons, List.flatten_nil, List.append_nil, gapB, List.append_assoc]
      have hdl : (be4 tsn ++ ((ss.take k).map gapB).flatten).length = 4 + 4 * k := by rw [List.length_append, be4_length, gaps_length, List.length_take, Nat.min_eq_left (by omega)]
      obtain ⟨x, hx⟩ : ∃ x, x = ss[k].1 := ⟨_, rfl⟩
      obtain ⟨y, hy⟩ : ∃ y, y = ss[k].2 := ⟨_, rfl⟩
      rw [← hx] at q0
      rw [← hy] at q1
      rw [← hx, ← hy] at htk hp
      rw [Nat.mul_comm 2 k] at q0
      rw [Nat.mul_comm 2 k, ← Nat.add_assoc] at q1
      obtain ⟨d0, hd0⟩ : ∃ d0, d0 = be4 tsn ++ ((ss.take k).map gapB).flatten := ⟨_, rfl⟩
      rw [← hd0] at hown htk hdl
      have HTK := Lib.hid htk
      have HDL := Lib.hid hdl
      have hd0l : d0.length ≤ 5000 := by omega
      clear hv2 hcell h0 h1 hx hy hd0 htk hdl
      have hltI : (k : Int) < (S : Int) := by omega
      go_upto_region 6 with fail
      have hbh := Blk.new wr 244 [.int .u16 (x : Nat), .int .u16 (y : Nat)]
      obtain ⟨h, hh⟩ : ∃ h, h = wr.heap.size := ⟨_, rfl⟩
      rw [← hh] at hbh ⊢
      refine wp_at (fun w' => Blk w' h 244 [.int .u16 (x : Nat), .int .u16 (y : Nat)] ∧ Grow wr w') ⟨hbh, grow_alloc _ _⟩ ?_
      clear hbh q0 q1 hh
      rintro wA ⟨hbA, hgA⟩
      have hc119 := streamMarshal_any h x y wA hbA hp.1 hp.2
      go_wp2_with (first | (go_at_call 119; (with_reducible refine hc119.mono ?_); rintro e wB ⟨gB, rfl, hgBl, hblkB, hgB⟩) | (refine wpl_appB w d0 (be2 x ++ be2 y) rfl _ _ rfl _ rfl _ rfl (hown.grow (hgA.trans hgB)) (OwnB.of_blk hblkB (Nat.zero_le _) (by simp [be2])).rd ?_ (hgr.trans (hgA.trans hgB)) ?_))
      · simp [be2]; omega
      intro v' wC hownC hgC
      rw [HTK.out] at hownC
      obtain ⟨a', c', rfl⟩ := own_form hownC
      obtain ⟨m', hm'⟩ : ∃ m', m' = (be4 tsn ++ ((ss.take (k + 1)).map gapB).flatten).length := ⟨_, rfl⟩
      rw [← hm'] at hownC ⊢
      clear hm'
      go_wp2
      go_roundw
      case rel => exact ⟨k + 1, a', m', c', by omega, by go_num, rfl, hownC, hgC⟩
      case measure => simp [intOf]; omega
    · obtain rfl : S = k := by omega
      have hall : be4 tsn ++ ((ss.take S).map gapB).flatten = fwdB tsn ss := by rw [HS.out, List.take_length, fwdB]
      rw [hall] at hown
      clear hall
      have hbr := hb.grow hgr
      have f0 := hbr.free 0
      have f2 := hbr.free 2
      have k0 := hbr.cell 0 _ rfl
      have k2 := hbr.cell 2 _ rfl
      have hb2 := (hbr.set 0 (.int .u8 192)).set 2 (.slice oa m oc)
      have ho2 : Only b w ((wr.setCell ⟨b, 0, none⟩ (.int .u8 192)).setCell ⟨b, 2, none⟩ (.slice oa m oc)) := ((Only.of_grow hgr).trans (Only.setCell _ _ _ _)).trans (Only.setCell _ _ _ _)
      have hor : Only b wr ((wr.setCell ⟨b, 0, none⟩ (.int .u8 192)).setCell ⟨b, 2, none⟩ (.slice oa m oc)) := (Only.setCell _ _ _ _).trans (Only.setCell _ _ _ _)
      have hown2 := own_block hown fun g hg => hor.block g (hown.lt g hg).2 (by intro he; have := (hown.lt g hg).1; have := hb.lt; cases he; omega)
      have hrd : RdB _ _ _ := OwnB.rd hown2
      have hc69 := headMarshal_any b 117 192 0 _ (fwdB tsn ss) _ _ hb2 hrd (by omega) (by omega) (by rw [← HN.out]; omega)
      rw [← HN.out] at hc69
      clear hb2 hrd hown2
      go_wp2_with (go_loud (go_at_call 69; (with_reducible refine hc69.mono ?_); rintro e w12 ⟨g', rfl, hle', hblk, hg12⟩))
      go_ret2
      exact ⟨g', rfl, Nat.le_trans ho2.size hle', hblk, ho2.grow hg12⟩
end Go.Proofs.YtdpmbchamefkmaaGreatDoor
