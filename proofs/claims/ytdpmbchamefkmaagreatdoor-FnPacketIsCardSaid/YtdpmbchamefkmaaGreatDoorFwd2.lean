/-
A chunk that moves the number on, read.
-/
import Derived.Test.YtdpmbchamefkmaaGreatDoorFwd1
import Derived.Test.YtdpmbchamefkmaaGreatDoorZZ0
import Derived.Deep.RegionLaw
import Derived.Deep.AppendLies
namespace Go.Proofs.YtdpmbchamefkmaaGreatDoor
open Go.RowKit

theorem Tryz.underlying115' : Tryz.prog.underlying 115 = some (.slice 244) := by kernel_rfl
theorem Tryz.info244 : (Tryz.prog.info? 244).map (fun i => (i.zero, i.size, i.bytes)) = some (some (.agg #[.int .u16 0, .int .u16 0]), 2, 4) := by kernel_rfl
theorem fwd_drop' (tsn : Nat) (ss : List (Nat × Nat)) (k : Nat) (hk : k < ss.length) : ∃ r, (fwdB tsn ss).drop (4 + 4 * k) = be2 ss[k].1 ++ (be2 ss[k].2 ++ r) := fwd_drop tsn ss k hk
theorem gapCells_take (ss : List (Nat × Nat)) (k : Nat) (hk : k < ss.length) : gapCells (ss.take k) ++ [.int .u16 (ss[k].1 : Nat), .int .u16 (ss[k].2 : Nat)] = gapCells (ss.take (k + 1)) := by
  rw [List.take_add_one, List.getElem?_eq_getElem hk]
  unfold gapCells
  rw [List.map_append, List.flatten_append]
  simp [gapC]

set_option maxRecDepth 100000 in
set_option maxHeartbeats 4000000 in
theorem fwdUnmarshal_any (b tsn : Nat) (ss : List (Nat × Nat)) (c0 c1 c2 c3 : Value) (v : Value) (rest : List UInt8) (w1 w : World) (hv : RdB w1 v (chunkB 192 0 (fwdB tsn ss) ++ rest))
    (hg : Grow w1 w) (hle : w1.heap.size ≤ b) (hb : Blk w b 117 [c0, c1, c2, c3, .slice none 0 0]) (htsn : tsn < 4294967296) (hss : ∀ p ∈ ss, p.1 < 65536 ∧ p.2 < 65536)
    (hS : ss.length ≤ 1000) (hrest : rest.length ≤ 140737488000000) (hz : rest.length < 4 → ∀ x ∈ rest, x = 0) :
    Calls Tryz.prog 118 #[.pointer (some ⟨b, 0, none⟩), v] w fun e w' => ∃ ra rc va vc, e = .returned .nilIface ∧
      Blk w' b 117 [.int .u8 192, .int .u8 0, .slice ra (fwdB tsn ss).length rc, .int .u32 tsn, .slice va ss.length vc] ∧ w'.ownsRow w.heap.size 244 2 (.slice va ss.length vc) ss.length (gapCells ss) ∧ Only b w w' := by
  have hlen := fwdB_length tsn ss
  have hc70 := headUnmarshal_any b 117 192 0 c0 c1 c2 [c3, .slice none 0 0] v (fwdB tsn ss) rest w1 w hv hg hle hb (by omega) (by omega) (by omega) hrest hz
  obtain ⟨S, hSe⟩ : ∃ S, S = ss.length := ⟨_, rfl⟩
  obtain ⟨N, hN⟩ : ∃ N, N = (fwdB tsn ss).length := ⟨_, rfl⟩
  rw [← hN] at hc70 ⊢
  rw [← hN, ← hSe] at hlen
  rw [← hSe] at hS ⊢
  have hN4 : ¬ (N : Int) < 4 := by omega
  have n1 : IntKind.i64.wrap ((N : Int) - 4) = 4 * (S : Int) := by rw [IntKind.wrap_i64]; omega
  have HS := Lib.hid hSe
  have HN := Lib.hid hN
  have HL := Lib.hid hlen
  clear hSe hN hlen hv hz
  have hbw := hb.lt
  go_enter Tryz.func118, Tryz.ntmps118
  go_upto_region 4 with (go_loud (go_at_call 70; (with_reducible refine hc70.mono ?_); rintro e w2 ⟨ra, rc, rfl, hraw, hb2, ho2⟩; rw [show ((192 : Nat) : Int) = 192 from rfl, show ((0 : Nat) : Int) = 0 from rfl] at hb2))
  have hg2 := ho2.below hg hle
  clear hc70 hb
  obtain ⟨A0, q0, cut0, call0⟩ := rdU32 hraw 0 N tsn _ 0 rfl (by rw [HN.out]; omega) htsn (by rw [List.drop_zero, fwdB])
  have k2 := hb2.cell 2 _ rfl
  go_upto_region 6 with fail
  clear k2
  have e2 := fun w' (h : Grow w2.drew w') => (hb2.grow (grow_drew h)).cell 2 _ rfl
  have cl := fun w' (h : Grow w2.drew w') => call0 w' (hg2.trans (grow_drew h))
  go_wp2
  (refine wp_region_calmK 11 75 Tryz.mixed rfl (by kernel_rfl) (fun T hT => ?_); simp only [List.take_succ_cons, List.take_zero, List.drop_succ_cons, List.drop_zero] at hT ⊢)
  iterate 8 (apply calm_val (D' := []) (hD := rfl); (· intro wZ1 hwZ1; simp only [fillAll]; go_simp; exact ⟨rfl, Grow.refl _⟩); simp only [Act.put, List.setIfInBounds_toArray, List.set_cons_succ, List.set_cons_zero])
  (apply calm_val (D' := []) (hD := rfl); (· intro wZ3 hwZ3; simp only [fillAll]; go_simp; refine ⟨Grow.refl _, (cl wZ3 hwZ3).mono ?_⟩; exact fun e wZ4 h => ⟨_, h.1, rfl, h.2⟩); simp only [Act.put, List.setIfInBounds_toArray, List.set_cons_succ, List.set_cons_zero])
  iterate 2 (apply calm_val (D' := []) (hD := rfl); (· intro wZ1 hwZ1; simp only [fillAll]; go_simp; exact ⟨rfl, Grow.refl _⟩); simp only [Act.put, List.setIfInBounds_toArray, List.set_cons_succ, List.set_cons_zero])
  (intro w3 hwQ; simp only [fillAll]; refine hT _ _ ?_; clear hT T)
  have hb3 := hb2.grow (grow_drew hwQ)
  have ho3 := ho2.grow (grow_drew hwQ)
  clear hwQ e2 cl cut0 call0
  have f := hb3.free 3
  have k := hb3.cell 3 _ rfl
  go_upto_region 7 with fail
  refine wp_at (fun w' => Blk w' b 117 [.int .u8 192, .int .u8 0, .slice ra N rc, .int .u32 tsn, .slice none 0 0] ∧ Only b w w') ⟨hb3.set 3 (.int .u32 tsn), ho3.trans (Only.setCell _ _ _ _)⟩ ?_
  clear f k hb3 ho3 hb2 ho2 hg2
  rintro w4 ⟨hb4, ho4⟩
  have k2 := hb4.cell 2 _ rfl
  go_wp2
  clear k2
  go_loopw [6, 7] (fun t u wr => ∃ (k : Nat) (va : Option Addr) (vc : Nat), k ≤ S ∧ t = .int .i64 (4 + 4 * (k : Int)) ∧ u = .int .i64 (4 * (S : Int) - 4 * (k : Int)) ∧ Blk wr b 117 [.int .u8 192, .int .u8 0, .slice ra N rc, .int .u32 tsn, .slice va k vc] ∧
    wr.ownsRow w.heap.size 244 2 (.slice va k vc) k (gapCells (ss.take k)) ∧ Only b w wr) (fun _ u _ => (intOf u).toNat)
  case atStart => exact ⟨0, none, 0, by omega, rfl, by go_num, hb4, by simpa [gapCells] using World.ownsRow_nil _ _ _ _, ho4⟩
  case round =>
    clear hb4 ho4
    obtain ⟨k, va, vc, hk, rfl, rfl, hbr, hown, hor⟩ := hrel
    by_cases hlt : k < S
    · have hgr := hor.below hg hle
      have hkg : k < ss.length := by rw [← HS.out]; exact hlt
      have hp := hss ss[k] (List.getElem_mem hkg)
      obtain ⟨r, hdr⟩ := fwd_drop tsn ss k hkg
      have htk := gapCells_take ss k hkg
      obtain ⟨x, hx⟩ : ∃ x, x = ss[k].1 := ⟨_, rfl⟩
      obtain ⟨y, hy⟩ : ∃ y, y = ss[k].2 := ⟨_, rfl⟩
      rw [← hx, ← hy] at htk hp hdr
      have HTK := Lib.hid htk
      obtain ⟨aa, qa, cuta, rda⟩ := cut_l hraw (4 + 4 * k) (N - (4 + 4 * k)) (4 + 4 * (k : Int)) (by simp) (by rw [← HN.out]; have := HL.out; omega)
      have hrda := rda w1 hraw
      have hMl : N - (4 + 4 * k) = ((fwdB tsn ss).drop (4 + 4 * k)).length := by rw [List.length_drop, ← HN.out]
      obtain ⟨M, hM⟩ : ∃ M, M = N - (4 + 4 * k) := ⟨_, rfl⟩
      rw [← hM] at cuta hrda hMl
      have hMb : (M : Int) = 4 * (S : Int) - 4 * (k : Int) := by have := HL.out; omega
      have HM := Lib.hid hMl
      have HD := Lib.hid hdr
      have m0 : (0 : Int) < 4 * (S : Int) - 4 * (k : Int) := by omega
      have n5 : IntKind.i64.wrap (4 + 4 * (k : Int) + 4) = 4 + 4 * (k : Int) + 4 := by rw [IntKind.wrap_i64]; omega
      have n6 : IntKind.i64.wrap (4 * (S : Int) - 4 * (k : Int) - 4) = 4 * (S : Int) - 4 * (k : Int) - 4 := by rw [IntKind.wrap_i64]; omega
      clear htk hx hy hMl hM hdr rda hMb
      go_upto_region 11 with fail
      have hbn := Blk.new wr 244 [.int .u16 0, .int .u16 0]
      obtain ⟨h, hh⟩ : ∃ h, h = wr.heap.size := ⟨_, rfl⟩
      rw [← hh] at hbn ⊢
      have hhl : wr.heap.size ≤ h := by omega
      have hhb : h ≠ b := by have := hbr.lt; omega
      refine wp_at (fun w' => Blk w' h 244 [.int .u16 0, .int .u16 0] ∧ Grow wr w') ⟨hbn, grow_alloc _ _⟩ ?_
      clear hbn hh
      rintro wA ⟨hbA, hgA⟩
      have k2 := (hbr.grow hgA).cell 2 _ rfl
      have hc120 := streamUnmarshal_any h x y M _ _ aa qa _ r w1 wA hrda HD.out HM.out (hgr.trans hgA) (by have := hor.size; have := hgr.size; omega) hbA hp.1 hp.2
      go_upto_region 14 with (go_loud (go_at_call 120; (with_reducible refine hc120.mono ?_); rintro e wB ⟨rfl, hbB, hoB⟩))
      have hgB : Grow wr wB := hoB.below hgA hhl
      clear k2 hc120 hbA hgA
      have hbB1 := hbr.grow hgB
      have hownB := own_grow hown hgB
      have k4 := hbB1.cell 4 _ rfl
      have f4 := hbB1.free 4
      have f5 : (wB.alloc (.cells #[.int .u16 (x : Nat), .int .u16 (y : Nat)] 244)).drew.frozen? ⟨b, 4, none⟩ = false := ((hbB1.alloc _).drew).free 4
      have q0 := hbB.cell 0 _ rfl
      have q1 := hbB.cell 1 _ rfl
      have lb := hbB1.lt
      have lh := hbB.lt
      have ag : (Value.slice va k vc).ownBlock ≠ some b := fun he => by have := (hown.lt b he).1; omega
      have ah : (Value.slice va k vc).ownBlock ≠ some h := fun he => by have := (hown.lt h he).2; omega
      have hwB : w.heap.size ≤ wB.heap.size := Nat.le_trans hor.size hgB.size
      have hk1 : k + 1 ≤ maxLen := by unfold maxLen; omega
      have hk2 : (k + 1) * 4 ≤ 140737488355328 := by omega
      obtain ⟨i0, hi0, hz0, hz1, hz2⟩ := info_parts Tryz.info244
      go_wp2
      have hbh' : b ≠ h := fun he => hhb he.symm
      go_region_law
        ((refine step_append_lies _ (by rfl) _ _ _ (by rfl) w.heap.size 244 i0 _ 2 4 Tryz.underlying115' hi0 hz0 hz1 hz2 rfl (by omega) (.slice va k vc) k _ (by rfl) ((hownB.alloc _).drew)
            ⟨wB.heap.size, 0, none⟩ 1 1 [.int .u16 (x : Nat), .int .u16 (y : Nat)] (by rfl) (by rfl) (World.news_of_block (cs := #[.int .u16 (x : Nat), .int .u16 (y : Nat)]) (t := 244) (fr := (0, 0)) (heap_alloc_new wB _)) (by simp [Value.oneCell'])
            (by omega) hk1 hk2 (by simp; omega) (wB.heap.size + 1) (by simp) ?_; intro gg cap w5 hown5 hgrow hat hlt5; have k5 : w5.cell? ⟨b, 4, none⟩ = some (.slice va k vc) := (hgrow.cell_far ⟨b, 4, none⟩ (by simp; omega) (Ne.symm ag)).trans (((hbB1.alloc _).drew).cell 4 _ rfl); have f6 : w5.frozen? ⟨b, 4, none⟩ = false := (hgrow.frozen_far ⟨b, 4, none⟩ (by simp; omega) (Ne.symm ag)).trans f5))
      all_goals
        go_upto_region 15 with fail
        rw [HTK.out] at hown5
        have hbC := blk_grown ((hbB1.alloc _).drew) hgrow ag
        have hgD : Grow wr _ := (hgB.trans (grow_alloc wB (.cells #[.int .u16 (x : Nat), .int .u16 (y : Nat)] 244))).drew
        have ho5 : Only b w w5 := (hor.grow hgD).grown hgrow fun g' h' => (hown.lt g' h').1
        have hown6 := own_block (w' := w5.setCell ⟨b, 4, none⟩ (.slice (some ⟨gg, 0, none⟩) (k + 1) cap)) hown5 fun g' hg' => (Only.setCell b 4 w5 _).block g' (hown5.lt g' hg').2 (by intro he; have := (hown5.lt g' hg').1; cases he; omega)
        refine wp_at (fun w' => Blk w' b 117 [.int .u8 192, .int .u8 0, .slice ra N rc, .int .u32 tsn, .slice (some ⟨gg, 0, none⟩) (k + 1) cap] ∧ w'.ownsRow w.heap.size 244 2 (.slice (some ⟨gg, 0, none⟩) (k + 1) cap) (k + 1) (gapCells (ss.take (k + 1))) ∧ Only b w w')
          ⟨hbC.set 4 (.slice (some ⟨gg, 0, none⟩) (k + 1) cap), hown6, ho5.trans (Only.setCell _ _ _ _)⟩ ?_
        clear hbC ho5 hown6 hown5 hgrow hat hlt5 k5 hgD hownB hbB1 k4 f4 f5 q0 q1 hbB hoB hgB hbr hown hor
        rintro w6 ⟨hb6, hown6, ho6⟩
        go_wp2_with (go_at_call 121; (with_reducible refine (streamLength_any _ _).mono ?_); rintro e w7 ⟨rfl, rfl⟩)
        go_roundw
        case rel => exact ⟨k + 1, some ⟨gg, 0, none⟩, cap, by omega, by go_num, by go_num, hb6, hown6, ho6⟩
        case measure => simp [intOf]; omega
    · obtain rfl : S = k := by omega
      have hall : gapCells (ss.take S) = gapCells ss := by rw [HS.out, List.take_length]
      rw [hall] at hown
      go_wp2
      go_ret
      exact ⟨ra, rc, va, vc, rfl, hbr, hown, hor⟩
end Go.Proofs.YtdpmbchamefkmaaGreatDoor
