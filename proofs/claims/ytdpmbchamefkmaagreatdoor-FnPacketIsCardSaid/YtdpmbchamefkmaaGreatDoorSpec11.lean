/-
The reference: a chunk that moves the number on.
-/
import Derived.Test.YtdpmbchamefkmaaGreatDoorSpec10
namespace Go.Proofs.YtdpmbchamefkmaaGreatDoor
open Go.RowKit

set_option maxRecDepth 100000 in
set_option maxHeartbeats 4000000 in
theorem specForward_any (tsn : Nat) (gaps : List (Nat × Nat)) (ga : Option Addr) (gc : Nat) (w : World) (hr : Rd w 2 (.slice ga gaps.length gc) gaps.length (intCells (natI gaps)))
    (hG : gaps.length ≤ 1000) (htsn : tsn < 4294967296) :
    Calls Tryz.prog 29 #[.agg #[.int .u32 tsn, .slice ga gaps.length gc]] w (RetB w (4 + (fwdB tsn gaps).length) (chunkB 192 0 (fwdB tsn gaps))) := by
  have hfl := fwdB_length tsn gaps
  obtain ⟨G, hGe⟩ : ∃ G, G = gaps.length := ⟨_, rfl⟩
  rw [← hGe] at hr hG hfl ⊢
  have HG := Lib.hid hGe
  clear hGe
  have n0 : IntKind.i64.wrap (tsn : Int) = (tsn : Int) := by rw [IntKind.wrap_i64]; omega
  have HFL := Lib.hid hfl
  clear hfl
  go_enter Tryz.func29, Tryz.ntmps29
  go_upto_region 1 with fail
  have hbx := Blk.new w 37 [.int .u32 tsn, .slice ga G gc]
  obtain ⟨x, hx⟩ : ∃ b, b = w.heap.size := ⟨_, rfl⟩
  rw [← hx] at hbx ⊢
  refine wp_at (fun w' => Blk w' x 37 [.int .u32 tsn, .slice ga G gc] ∧ Grow w w') ⟨hbx, grow_alloc _ _⟩ ?_
  clear hbx hx
  rintro w0 ⟨hb0, hg0⟩
  have k0 := hb0.cell 0 _ rfl
  go_upto_region 2 with (go_loud (go_at_call 19; (with_reducible refine (number4 tsn w0).mono ?_); rintro e w1 ⟨a25, c25, rfl, ho1, hg01⟩))
  have hg1 := hg0.trans hg01
  have hb1 := hb0.grow hg01
  have h25 := ho1.rd
  have k1 := hb1.cell 1 _ rfl
  clear k0 hb0 hg0 hg01 ho1
  go_wp2
  clear k1
  go_loopw [3, 13] (fun t i wr => ∃ (k : Nat) (ta : Option Addr) (m tc : Nat), k ≤ G ∧ i = .int .i64 k ∧ t = .slice ta m tc ∧ RdB wr (.slice ta m tc) (be4 tsn ++ ((gaps.take k).map gapB).flatten) ∧ Grow w wr) (fun _ i _ => G - (intOf i).toNat)
  case atStart => exact ⟨0, a25, _, c25, by omega, rfl, rfl, by simpa using h25, hg1⟩
  case round =>
    clear h25 hb1 hg1
    obtain ⟨k, ta, m, tc, hk, rfl, rfl, hrd, hgr⟩ := hrel
    by_cases hlt : k < G
    · have hkg : k < gaps.length := by rw [← HG.out]; exact hlt
      obtain ⟨h0, h1⟩ := intCells_get (natI gaps) k (by simpa [natI] using hkg)
      obtain ⟨g, o, c, hv, _, hcell⟩ := Rd.at hr (by omega)
      have q0 := cell_grow hgr (hcell _ _ h0)
      have q1 := cell_grow hgr (hcell _ _ h1)
      simp only [Value.slice.injEq] at hv
      obtain ⟨rfl, hv2, rfl⟩ := hv
      have htk : (be4 tsn ++ ((gaps.take k).map gapB).flatten) ++ (be2 gaps[k].1 ++ be2 gaps[k].2) = be4 tsn ++ ((gaps.take (k + 1)).map gapB).flatten := by
        rw [List.take_add_one, List.getElem?_eq_getElem hkg, List.map_append, List.flatten_append]
        simp only [Option.toList_some, List.map_cons, List.map_nil, List.flatten_cons, List.flatten_nil, List.append_nil, gapB, List.append_assoc]
      have hdl : (be4 tsn ++ ((gaps.take k).map gapB).flatten).length = 4 + 4 * k := by rw [List.length_append, be4_length, gaps_length, List.length_take, Nat.min_eq_left (by omega)]
      have en : (natI gaps)[k]'(by simpa [natI] using hkg) = ((gaps[k].1 : Int), (gaps[k].2 : Int)) := by simp [natI]
      rw [en] at q0 q1
      obtain ⟨p, hp⟩ : ∃ p, p = gaps[k].1 := ⟨_, rfl⟩
      obtain ⟨q, hq⟩ : ∃ q, q = gaps[k].2 := ⟨_, rfl⟩
      rw [← hp, ← hq] at q0 q1 htk
      simp only [] at q0 q1
      rw [Nat.mul_comm 2 k] at q0
      rw [Nat.mul_comm 2 k, ← Nat.add_assoc] at q1
      obtain ⟨d0, hd0⟩ : ∃ d0, d0 = be4 tsn ++ ((gaps.take k).map gapB).flatten := ⟨_, rfl⟩
      rw [← hd0] at hrd htk hdl
      have HTK := Lib.hid htk
      have HDL := Lib.hid hdl
      have hd0l : d0.length ≤ 5000 := by omega
      clear hv2 hcell h0 h1 en hp hq hd0 htk hdl
      have hltI : (k : Int) < (G : Int) := by omega
      go_wp2
      have hbh := Blk.new wr 48 [.int .i64 (p : Int), .int .i64 (q : Int)]
      obtain ⟨h, hh⟩ : ∃ h, h = wr.heap.size := ⟨_, rfl⟩
      rw [← hh] at hbh ⊢
      refine wp_at (fun w' => Blk w' h 48 [.int .i64 (p : Int), .int .i64 (q : Int)] ∧ Grow wr w') ⟨hbh, grow_alloc _ _⟩ ?_
      clear hbh q0 q1 hh
      rintro w10 ⟨hbh, hg10⟩
      have e0 := fun w' (h' : Grow w10.drew w') => (hbh.grow (grow_drew h')).cell 0 _ rfl
      have e1 := fun w' (h' : Grow w10.drew w') => (hbh.grow (grow_drew h')).cell 1 _ rfl
      (refine wp_region_calmK 9 29 Tryz.mixed rfl (by kernel_rfl) (fun T hT => ?_); simp only [List.take_succ_cons, List.take_zero, List.drop_succ_cons, List.drop_zero] at hT ⊢)
      iterate 3 (apply calm_val (D' := []) (hD := rfl); (· intro wZ1 hwZ1; simp only [fillAll]; go_simp; exact ⟨rfl, Grow.refl _⟩); simp only [Act.put, List.setIfInBounds_toArray, List.set_cons_succ, List.set_cons_zero])
      refine calm_new [] (fun u w => RdB w u (be2 p)) 20 rfl rfl (RdB.stable _) (fun w1 hw1 => ?_) ?_
      · simp only [fillAll]
        go_simp
        refine ⟨Grow.refl _, (number2 p w1).mono ?_⟩
        rintro e w2 ⟨a3, c3, rfl, ho2, hb2⟩
        exact ⟨_, rfl, ho2.rd, hb2⟩
      iterate 2 (apply calm_val (D' := []) (hD := rfl); (· intro wZ1 hwZ1; simp only [fillAll]; go_simp; exact ⟨rfl, Grow.refl _⟩); simp only [Act.put, List.setIfInBounds_toArray, List.set_cons_succ, List.set_cons_zero])
      refine calm_new [] (fun u w => RdB w u (be2 q)) 23 rfl rfl (RdB.stable _) (fun w1 hw1 => ?_) ?_
      · simp only [fillAll]
        go_simp
        refine ⟨Grow.refl _, (number2 q w1).mono ?_⟩
        rintro e w2 ⟨a3, c3, rfl, ho2, hb2⟩
        exact ⟨_, rfl, ho2.rd, hb2⟩
      refine calm_new [(23, fun u w => RdB w u (be2 q)), (20, fun u w => RdB w u (be2 p))] (fun u w => RdBs w u [d0, be2 p, be2 q]) 24 rfl rfl (RdBs.stable _) (fun w1 hw1 => ?_) ?_
      · simp only [fillAll]
        intro u39 (h39 : RdB w1 u39 (be2 q)) u36 (h36 : RdB w1 u36 (be2 p))
        obtain ⟨a39, c39, he39⟩ := h39.form
        obtain ⟨a36, c36, he36⟩ := h36.form
        rw [he39] at h39 ⊢
        rw [he36] at h36 ⊢
        clear he39 he36
        simp only [Act.put, List.setIfInBounds_toArray, List.set_cons_succ, List.set_cons_zero]
        go_simp
        exact ⟨rdbs_new w1 _ 3 rfl [_, _, _] _ 28 ⟨hrd.grow (hg10.trans (grow_drew hw1)), h36, h39, trivial⟩ rfl, grow_alloc _ _⟩
      refine calm_new [(24, fun u w => RdBs w u [d0, be2 p, be2 q])] (fun u w => RdB w u (d0 ++ (be2 p ++ be2 q))) 25 rfl rfl (RdB.stable _) (fun w1 hw1 => ?_) ?_
      · simp only [fillAll]
        intro u hu
        simp only [Act.put, List.setIfInBounds_toArray, List.set_cons_succ, List.set_cons_zero]
        go_simp
        refine ⟨Grow.refl _, (joined_any _ [d0, be2 p, be2 q] (d0.length + 4) w1 hu (by simp [be2]; omega) (by simp) (by simp [be2])).mono ?_⟩
        rintro e w2 ⟨a3, c3, rfl, ho2, hb2⟩
        exact ⟨_, rfl, by simpa using ho2.rd, hb2⟩
      intro w11 hw11
      simp only [fillAll]
      intro u41 h41 u40 h40 u39 h39 u36 h36
      clear h40 h39 h36
      obtain ⟨a41, c41, rfl⟩ := RdB.form h41
      generalize (d0 ++ (be2 p ++ be2 q)).length = m41 at h41 ⊢
      simp only [Act.put, List.setIfInBounds_toArray, List.set_cons_succ, List.set_cons_zero]
      refine hT _ _ ?_
      clear hT T e0 e1
      have hgw := hg10.trans (grow_drew hw11)
      rw [HTK.out] at h41
      go_wp2
      go_roundw
      case rel => exact ⟨k + 1, a41, _, c41, by omega, by go_num, rfl, h41, hgr.trans hgw⟩
      case measure => simp [intOf]; omega
    · obtain rfl : G = k := by omega
      have hall : be4 tsn ++ ((gaps.take G).map gapB).flatten = fwdB tsn gaps := by rw [HG.out, List.take_length, fwdB]
      rw [hall] at hrd
      clear hall
      have hc := chunk_any 192 0 (.slice ta m tc) (fwdB tsn gaps) wr hrd (by omega) (by omega) (by rw [HFL.out]; omega)
      rw [show ((192 : Nat) : Int) = 192 from rfl, show ((0 : Nat) : Int) = 0 from rfl] at hc
      obtain ⟨N, hN⟩ : ∃ N, N = (fwdB tsn gaps).length := ⟨_, rfl⟩
      rw [← hN] at hc ⊢
      have HN := Lib.hid hN
      clear hN
      go_wp2_with (go_loud (go_at_call 21; (with_reducible refine hc.mono ?_); rintro e w2 ⟨a2, c2, rfl, ho2, hg2⟩))
      go_ret
      exact RetB.fin hgr ho2 hg2 (by rw [chunkB_length])

/-- what IsForward asks -/
def FwdOk (gs : List (Int × Int)) : Prop := gs.length ≤ 1000 ∧ ∀ p ∈ gs, 0 ≤ p.1 ∧ p.1 ≤ 65535 ∧ 0 ≤ p.2 ∧ p.2 ≤ 65535

set_option maxRecDepth 20000 in
set_option maxHeartbeats 2000000 in
theorem isForward_any (tsn : Nat) (gs : List (Int × Int)) (ga : Option Addr) (gc : Nat) (w : World) (hr : Rd w 2 (.slice ga gs.length gc) gs.length (intCells gs)) :
    Calls Tryz.prog 25 #[.agg #[.int .u32 tsn, .slice ga gs.length gc]] w (Ans (FwdOk gs) w) := by
  obtain ⟨G, hG⟩ : ∃ G, G = gs.length := ⟨_, rfl⟩
  rw [← hG] at hr ⊢
  have HG := Lib.hid hG
  clear hG
  by_cases hG1 : G ≤ 1000
  · have hG' : (G : Int) ≤ 1000 := by omega
    go_enter Tryz.func25, Tryz.ntmps25
    go_wp2
    go_loopw [12] (fun i wr => ∃ k : Nat, k ≤ G ∧ i = .int .i64 k ∧ (∀ p ∈ gs.take k, 0 ≤ p.1 ∧ p.1 ≤ 65535 ∧ 0 ≤ p.2 ∧ p.2 ≤ 65535) ∧ Grow w wr) (fun i _ => G - (intOf i).toNat)
    case atStart => exact ⟨0, by omega, rfl, by simp, grow_alloc _ _⟩
    case round =>
      obtain ⟨k, hk, rfl, hall, hgr⟩ := hrel
      by_cases hlt : k < G
      · have hkg : k < gs.length := by rw [← HG.out]; exact hlt
        obtain ⟨h0, h1⟩ := intCells_get gs k hkg
        obtain ⟨g, o, c, hv, _, hcell⟩ := Rd.at hr (by omega)
        have q0 := cell_grow hgr (hcell _ _ h0)
        have q1 := cell_grow hgr (hcell _ _ h1)
        have htk : gs.take (k + 1) = gs.take k ++ [gs[k]] := by rw [List.take_add_one, List.getElem?_eq_getElem hkg]; rfl
        have hmem : gs[k] ∈ gs := List.getElem_mem hkg
        simp only [Value.slice.injEq] at hv
        obtain ⟨rfl, _, rfl⟩ := hv
        obtain ⟨⟨x, y⟩, hp⟩ : ∃ p, p = gs[k] := ⟨_, rfl⟩
        rw [← hp] at q0 q1 htk hmem
        simp only [] at q0 q1
        rw [Nat.mul_comm 2 k] at q0
        rw [Nat.mul_comm 2 k, ← Nat.add_assoc] at q1
        have hltI : (k : Int) < (G : Int) := by omega
        clear hp
        by_cases hx0 : x < 0
        · go_wp2
          go_ret
          exact ⟨false, rfl, by simp, hgr.trans (grow_alloc _ _)⟩
        by_cases hx1 : 65535 < x
        · go_wp2
          go_ret
          exact ⟨false, rfl, by simp, hgr.trans (grow_alloc _ _)⟩
        by_cases hy0 : y < 0
        · go_wp2
          go_ret
          exact ⟨false, rfl, by simp, hgr.trans (grow_alloc _ _)⟩
        by_cases hy1 : 65535 < y
        · go_wp2
          go_ret
          exact ⟨false, rfl, by simp, hgr.trans (grow_alloc _ _)⟩
        have HTK := Lib.hid htk
        have HALL := Lib.hid hall
        clear htk hall
        go_wp2
        go_roundw
        case rel => exact ⟨k + 1, by omega, by go_num, by rw [HTK.out]; intro p hp; rcases List.mem_append.1 hp with h | h; exact HALL.out p h; simp at h; subst h; simp only []; omega, hgr.trans (grow_alloc _ _)⟩
        case measure => simp [intOf]; omega
      · obtain rfl : G = k := by omega
        have hyes : FwdOk gs := ⟨by rw [← HG.out]; exact hG1, by rw [HG.out, List.take_length] at hall; exact hall⟩
        have HY := Lib.hid hyes
        clear hyes hall
        go_wp2
        go_ret
        exact ⟨true, rfl, fun _ => HY.out, hgr⟩
  · have hG' : ¬ (G : Int) ≤ 1000 := by omega
    go_enter Tryz.func25, Tryz.ntmps25
    go_wp2
    go_ret
    exact ⟨false, rfl, by simp, grow_alloc _ _⟩
end Go.Proofs.YtdpmbchamefkmaaGreatDoor
