/-
The reference: a selective acknowledgement.
-/
import Derived.Test.YtdpmbchamefkmaaGreatDoorLaw1
import Derived.Test.YtdpmbchamefkmaaGreatDoorSpec6
namespace Go.Proofs.YtdpmbchamefkmaaGreatDoor
open Go.RowKit

def natI (gaps : List (Nat × Nat)) : List (Int × Int) := gaps.map fun p => ((p.1 : Int), (p.2 : Int))

def sackH (tsn win G D : Nat) : List UInt8 := [be4 tsn, be4 win, be2 G, be2 D].flatten
theorem sackH_length (tsn win G D : Nat) : (sackH tsn win G D).length = 12 := rfl

set_option maxRecDepth 100000 in
set_option maxHeartbeats 4000000 in
theorem specSack_any (tsn win : Nat) (gaps : List (Nat × Nat)) (dups : List Nat) (ga da : Option Addr) (gc dc : Nat) (w : World) (hr : Rd w 2 (.slice ga gaps.length gc) gaps.length (intCells (natI gaps))) (hd : Rd w 1 (.slice da dups.length dc) dups.length (dupCells dups))
    (hG : gaps.length ≤ 1000) (hD : dups.length ≤ 1000) (htsn : tsn < 4294967296) (hwin : win < 4294967296) (hdups : ∀ n ∈ dups, n < 4294967296) :
    Calls Tryz.prog 9 #[.agg #[.int .u32 tsn, .int .u32 win, .slice ga gaps.length gc, .slice da dups.length dc]] w (RetB w (4 + (sackB tsn win gaps dups).length) (chunkB 3 0 (sackB tsn win gaps dups))) := by
  obtain ⟨G, hGe⟩ : ∃ G, G = gaps.length := ⟨_, rfl⟩
  obtain ⟨D, hDe⟩ : ∃ D, D = dups.length := ⟨_, rfl⟩
  rw [← hGe] at hr hG ⊢
  rw [← hDe] at hd hD ⊢
  have HG := Lib.hid hGe
  have HD := Lib.hid hDe
  clear hGe hDe
  go_enter Tryz.func9, Tryz.ntmps9
  go_wp2
  have hbx := Blk.new w 26 [.int .u32 tsn, .int .u32 win, .slice ga G gc, .slice da D dc]
  obtain ⟨x, hx⟩ : ∃ b, b = w.heap.size := ⟨_, rfl⟩
  rw [← hx] at hbx ⊢
  refine wp_at (fun w' => Blk w' x 26 [.int .u32 tsn, .int .u32 win, .slice ga G gc, .slice da D dc] ∧ Grow w w') ⟨hbx, grow_alloc _ _⟩ ?_
  clear hbx hx
  rintro w0 ⟨hb0, hg0⟩
  have e0 := fun w' (h : Grow w0.drew w') => (hb0.grow (grow_drew h)).cell 0 _ rfl
  have e1 := fun w' (h : Grow w0.drew w') => (hb0.grow (grow_drew h)).cell 1 _ rfl
  have e2 := fun w' (h : Grow w0.drew w') => (hb0.grow (grow_drew h)).cell 2 _ rfl
  have e3 := fun w' (h : Grow w0.drew w') => (hb0.grow (grow_drew h)).cell 3 _ rfl
  have n0 : IntKind.i64.wrap (tsn : Int) = (tsn : Int) := by rw [IntKind.wrap_i64]; omega
  have n1 : IntKind.i64.wrap (win : Int) = (win : Int) := by rw [IntKind.wrap_i64]; omega
  (refine wp_region_calmK 18 59 Tryz.mixed rfl (by kernel_rfl) (fun T hT => ?_); simp only [List.take_succ_cons, List.take_zero, List.drop_succ_cons, List.drop_zero] at hT ⊢)
  iterate 3 (apply calm_val (D' := []) (hD := rfl); (· intro wZ1 hwZ1; simp only [fillAll]; go_simp; exact ⟨rfl, Grow.refl _⟩); simp only [Act.put, List.setIfInBounds_toArray, List.set_cons_succ, List.set_cons_zero])
  refine calm_new [] (fun u w => RdB w u (be4 tsn)) 11 rfl rfl (RdB.stable _) (fun w1 hw1 => ?_) ?_
  · simp only [fillAll]
    go_simp
    refine ⟨Grow.refl _, (number4 tsn w1).mono ?_⟩
    rintro e w2 ⟨a3, c3, rfl, ho2, hb2⟩
    exact ⟨_, rfl, ho2.rd, hb2⟩
  iterate 3 (apply calm_val (D' := []) (hD := rfl); (· intro wZ1 hwZ1; simp only [fillAll]; go_simp; exact ⟨rfl, Grow.refl _⟩); simp only [Act.put, List.setIfInBounds_toArray, List.set_cons_succ, List.set_cons_zero])
  refine calm_new [] (fun u w => RdB w u (be4 win)) 15 rfl rfl (RdB.stable _) (fun w1 hw1 => ?_) ?_
  · simp only [fillAll]
    go_simp
    refine ⟨Grow.refl _, (number4 win w1).mono ?_⟩
    rintro e w2 ⟨a3, c3, rfl, ho2, hb2⟩
    exact ⟨_, rfl, ho2.rd, hb2⟩
  iterate 3 (apply calm_val (D' := []) (hD := rfl); (· intro wZ1 hwZ1; simp only [fillAll]; go_simp; exact ⟨rfl, Grow.refl _⟩); simp only [Act.put, List.setIfInBounds_toArray, List.set_cons_succ, List.set_cons_zero])
  refine calm_new [] (fun u w => RdB w u (be2 G)) 19 rfl rfl (RdB.stable _) (fun w1 hw1 => ?_) ?_
  · simp only [fillAll]
    go_simp
    refine ⟨Grow.refl _, (number2 G w1).mono ?_⟩
    rintro e w2 ⟨a3, c3, rfl, ho2, hb2⟩
    exact ⟨_, rfl, ho2.rd, hb2⟩
  iterate 3 (apply calm_val (D' := []) (hD := rfl); (· intro wZ1 hwZ1; simp only [fillAll]; go_simp; exact ⟨rfl, Grow.refl _⟩); simp only [Act.put, List.setIfInBounds_toArray, List.set_cons_succ, List.set_cons_zero])
  refine calm_new [] (fun u w => RdB w u (be2 D)) 23 rfl rfl (RdB.stable _) (fun w1 hw1 => ?_) ?_
  · simp only [fillAll]
    go_simp
    refine ⟨Grow.refl _, (number2 D w1).mono ?_⟩
    rintro e w2 ⟨a3, c3, rfl, ho2, hb2⟩
    exact ⟨_, rfl, ho2.rd, hb2⟩
  refine calm_new [(23, fun u w => RdB w u (be2 D)), (19, fun u w => RdB w u (be2 G)), (15, fun u w => RdB w u (be4 win)), (11, fun u w => RdB w u (be4 tsn))] (fun u w => RdBs w u [be4 tsn, be4 win, be2 G, be2 D]) 24 rfl rfl (RdBs.stable _) (fun w1 hw1 => ?_) ?_
  · simp only [fillAll]
    intro u23 (h23 : RdB w1 u23 (be2 D)) u19 (h19 : RdB w1 u19 (be2 G)) u15 (h15 : RdB w1 u15 (be4 win)) u11 (h11 : RdB w1 u11 (be4 tsn))
    obtain ⟨a23, c23, he23⟩ := h23.form
    obtain ⟨a19, c19, he19⟩ := h19.form
    obtain ⟨a15, c15, he15⟩ := h15.form
    obtain ⟨a11, c11, he11⟩ := h11.form
    rw [he23] at h23 ⊢
    rw [he19] at h19 ⊢
    rw [he15] at h15 ⊢
    rw [he11] at h11 ⊢
    clear he23 he19 he15 he11
    simp only [Act.put, List.setIfInBounds_toArray, List.set_cons_succ, List.set_cons_zero]
    go_simp
    exact ⟨rdbs_new w1 _ 4 rfl [_, _, _, _] _ 28 ⟨h11, h15, h19, h23, trivial⟩ rfl, grow_alloc _ _⟩
  refine calm_new [(24, fun u w => RdBs w u [be4 tsn, be4 win, be2 G, be2 D])] (fun u w => RdB w u (sackH tsn win G D)) 25 rfl rfl (RdB.stable _) (fun w1 hw1 => ?_) ?_
  · simp only [fillAll]
    intro u hu
    simp only [Act.put, List.setIfInBounds_toArray, List.set_cons_succ, List.set_cons_zero]
    go_simp
    refine ⟨Grow.refl _, (joined_any _ [be4 tsn, be4 win, be2 G, be2 D] 12 w1 hu (by simp [be4, be2]) (by simp) rfl).mono ?_⟩
    rintro e w2 ⟨a3, c3, rfl, ho2, hb2⟩
    exact ⟨_, rfl, ho2.rd, hb2⟩
  intro w1 hw1
  simp only [fillAll]
  intro u25 h25 u24 h24 u23 h23 u19 h19 u15 h15 u11 h11
  clear h24 h23 h19 h15 h11
  obtain ⟨a25, c25, rfl⟩ := RdB.form h25
  simp only [Act.put, List.setIfInBounds_toArray, List.set_cons_succ, List.set_cons_zero]
  refine hT _ _ ?_
  clear hT T e0 e1 e2 e3
  have k2 := (hb0.grow (grow_drew hw1)).cell 2 _ rfl
  go_wp2
  clear k2
  have hg1 := hg0.trans (grow_drew hw1)
  have hb1 := hb0.grow (grow_drew hw1)
  clear hw1 hb0 hg0
  go_loopw [3, 29] (fun t i wr => ∃ (k : Nat) (ta : Option Addr) (m tc : Nat), k ≤ G ∧ i = .int .i64 k ∧ t = .slice ta m tc ∧ RdB wr (.slice ta m tc) (sackH tsn win G D ++ ((gaps.take k).map gapB).flatten) ∧ Blk wr x 26 [.int .u32 tsn, .int .u32 win, .slice ga G gc, .slice da D dc] ∧ Grow w wr) (fun _ i _ => G - (intOf i).toNat)
  case atStart => exact ⟨0, a25, _, c25, by omega, rfl, rfl, by simpa using h25, hb1, hg1⟩
  case round =>
    clear h25 hb1 hg1
    obtain ⟨k, ta, m, tc, hk, rfl, rfl, hrd, hbr, hgr⟩ := hrel
    by_cases hlt : k < G
    · have hkg : k < gaps.length := by rw [← HG.out]; exact hlt
      obtain ⟨h0, h1⟩ := intCells_get (natI gaps) k (by simpa [natI] using hkg)
      obtain ⟨g, o, c, hv, _, hcell⟩ := Rd.at hr (by omega)
      have q0 := cell_grow hgr (hcell _ _ h0)
      have q1 := cell_grow hgr (hcell _ _ h1)
      simp only [Value.slice.injEq] at hv
      obtain ⟨rfl, hv2, rfl⟩ := hv
      have htk : (sackH tsn win G D ++ ((gaps.take k).map gapB).flatten) ++ (be2 gaps[k].1 ++ be2 gaps[k].2) = sackH tsn win G D ++ ((gaps.take (k + 1)).map gapB).flatten := by
        rw [List.take_add_one, List.getElem?_eq_getElem hkg, List.map_append, List.flatten_append]
        simp only [Option.toList_some, List.map_cons, List.map_nil, List.flatten_cons, List.flatten_nil, List.append_nil, gapB, List.append_assoc]
      have hdl : (sackH tsn win G D ++ ((gaps.take k).map gapB).flatten).length = 12 + 4 * k := by rw [List.length_append, sackH_length, gaps_length, List.length_take, Nat.min_eq_left (by omega)]
      have en : (natI gaps)[k]'(by simpa [natI] using hkg) = ((gaps[k].1 : Int), (gaps[k].2 : Int)) := by simp [natI]
      rw [en] at q0 q1
      obtain ⟨p, hp⟩ : ∃ p, p = gaps[k].1 := ⟨_, rfl⟩
      obtain ⟨q, hq⟩ : ∃ q, q = gaps[k].2 := ⟨_, rfl⟩
      rw [← hp, ← hq] at q0 q1 htk
      simp only [] at q0 q1
      rw [Nat.mul_comm 2 k] at q0
      rw [Nat.mul_comm 2 k, ← Nat.add_assoc] at q1
      obtain ⟨d0, hd0⟩ : ∃ d0, d0 = sackH tsn win G D ++ ((gaps.take k).map gapB).flatten := ⟨_, rfl⟩
      rw [← hd0] at hrd htk hdl
      have HTK := Lib.hid htk
      have HDL := Lib.hid hdl
      have hd0l : d0.length ≤ 5000 := by omega
      clear hv2 hcell h0 h1 en hp hq hd0 htk hdl
      have hltI : (k : Int) < (G : Int) := by omega
      go_wp2
      have hbh := Blk.new wr 48 [.int .i64 (p : Int), .int .i64 (q : Int)]
      obtain ⟨h, hh⟩ : ∃ h, h = wr.heap.size := ⟨_, rfl⟩
      rw [← hh] at hbh ⊢
      refine wp_at (fun w' => Blk w' h 48 [.int .i64 (p : Int), .int .i64 (q : Int)] ∧ Grow wr w') ⟨hbh, grow_alloc _ _⟩ ?_
      clear hbh q0 q1 hh
      rintro w10 ⟨hbh, hg10⟩
      have e0 := fun w' (h' : Grow w10.drew w') => (hbh.grow (grow_drew h')).cell 0 _ rfl
      have e1 := fun w' (h' : Grow w10.drew w') => (hbh.grow (grow_drew h')).cell 1 _ rfl
      (refine wp_region_calmK 9 59 Tryz.mixed rfl (by kernel_rfl) (fun T hT => ?_); simp only [List.take_succ_cons, List.take_zero, List.drop_succ_cons, List.drop_zero] at hT ⊢)
      iterate 3 (apply calm_val (D' := []) (hD := rfl); (· intro wZ1 hwZ1; simp only [fillAll]; go_simp; exact ⟨rfl, Grow.refl _⟩); simp only [Act.put, List.setIfInBounds_toArray, List.set_cons_succ, List.set_cons_zero])
      refine calm_new [] (fun u w => RdB w u (be2 p)) 36 rfl rfl (RdB.stable _) (fun w1 hw1 => ?_) ?_
      · simp only [fillAll]
        go_simp
        refine ⟨Grow.refl _, (number2 p w1).mono ?_⟩
        rintro e w2 ⟨a3, c3, rfl, ho2, hb2⟩
        exact ⟨_, rfl, ho2.rd, hb2⟩
      iterate 2 (apply calm_val (D' := []) (hD := rfl); (· intro wZ1 hwZ1; simp only [fillAll]; go_simp; exact ⟨rfl, Grow.refl _⟩); simp only [Act.put, List.setIfInBounds_toArray, List.set_cons_succ, List.set_cons_zero])
      refine calm_new [] (fun u w => RdB w u (be2 q)) 39 rfl rfl (RdB.stable _) (fun w1 hw1 => ?_) ?_
      · simp only [fillAll]
        go_simp
        refine ⟨Grow.refl _, (number2 q w1).mono ?_⟩
        rintro e w2 ⟨a3, c3, rfl, ho2, hb2⟩
        exact ⟨_, rfl, ho2.rd, hb2⟩
      refine calm_new [(39, fun u w => RdB w u (be2 q)), (36, fun u w => RdB w u (be2 p))] (fun u w => RdBs w u [d0, be2 p, be2 q]) 40 rfl rfl (RdBs.stable _) (fun w1 hw1 => ?_) ?_
      · simp only [fillAll]
        intro u39 (h39 : RdB w1 u39 (be2 q)) u36 (h36 : RdB w1 u36 (be2 p))
        obtain ⟨a39, c39, he39⟩ := h39.form
        obtain ⟨a36, c36, he36⟩ := h36.form
        rw [he39] at h39 ⊢
        rw [he36] at h36 ⊢
        clear he39 he36
        simp only [Act.put, List.setIfInBounds_toArray, List.set_cons_succ, List.set_cons_zero]
        go_simp
        exact ⟨rdbs_new w1 _ 3 rfl [_, _, _] _ 28 ⟨hrd.grow (hg10.trans (grow_drew hw1)), h36, h39, trivial⟩ rfl, grow_alloc _ _⟩
      refine calm_new [(40, fun u w => RdBs w u [d0, be2 p, be2 q])] (fun u w => RdB w u (d0 ++ (be2 p ++ be2 q))) 41 rfl rfl (RdB.stable _) (fun w1 hw1 => ?_) ?_
      · simp only [fillAll]
        intro u hu
        simp only [Act.put, List.setIfInBounds_toArray, List.set_cons_succ, List.set_cons_zero]
        go_simp
        refine ⟨Grow.refl _, (joined_any _ [d0, be2 p, be2 q] (d0.length + 4) w1 hu (by simp [be2]; omega) (by simp) (by simp [be2])).mono ?_⟩
        rintro e w2 ⟨a3, c3, rfl, ho2, hb2⟩
        exact ⟨_, rfl, by simpa using ho2.rd, hb2⟩
      intro w11 hw11
      simp only [fillAll]
      intro u41 h41 u40 h40 u39 h39 u36 h36
      clear h40 h39 h36
      obtain ⟨a41, c41, rfl⟩ := RdB.form h41
      generalize (d0 ++ (be2 p ++ be2 q)).length = m41 at h41 ⊢
      simp only [Act.put, List.setIfInBounds_toArray, List.set_cons_succ, List.set_cons_zero]
      refine hT _ _ ?_
      clear hT T e0 e1
      have hgw := hg10.trans (grow_drew hw11)
      rw [HTK.out] at h41
      go_wp2
      go_roundw
      case rel => exact ⟨k + 1, a41, _, c41, by omega, by go_num, rfl, h41, hbr.grow hgw, hgr.trans hgw⟩
      case measure => simp [intOf]; omega
    · obtain rfl : G = k := by omega
      have hall : sackH tsn win G D ++ ((gaps.take G).map gapB).flatten = sackH tsn win G D ++ (gaps.map gapB).flatten := by rw [HG.out, List.take_length]
      rw [hall] at hrd
      obtain ⟨d1, hd1⟩ : ∃ d1, d1 = sackH tsn win G D ++ (gaps.map gapB).flatten := ⟨_, rfl⟩
      rw [← hd1] at hrd
      have hd1l : d1.length = 12 + 4 * G := by rw [hd1, List.length_append, sackH_length, gaps_length, HG.out]
      have HD1 := Lib.hid hd1
      have hd1b : d1.length ≤ 5000 := by omega
      clear hall hd1 hd1l
      have k3 := hbr.cell 3 _ rfl
      go_wp2
      clear k3
      go_loopw [3, 46] (fun t i wr => ∃ (k : Nat) (ta : Option Addr) (m tc : Nat), k ≤ D ∧ i = .int .i64 k ∧ t = .slice ta m tc ∧ RdB wr (.slice ta m tc) (d1 ++ ((dups.take k).map be4).flatten) ∧ Grow w wr) (fun _ i _ => D - (intOf i).toNat)
      case atStart => exact ⟨0, ta, _, tc, by omega, rfl, rfl, by simpa using hrd, hgr⟩
      case round =>
        clear hrd hbr hgr
        obtain ⟨k, ta, m, tc, hk, rfl, rfl, hrd, hgr⟩ := hrel
        by_cases hlt : k < D
        · have hkd : k < dups.length := by rw [← HD.out]; exact hlt
          have h0 := dupCells_get dups k hkd
          have hp := hdups dups[k] (List.getElem_mem hkd)
          obtain ⟨g, o, c, hv, _, hcell⟩ := Rd.at hd (by omega)
          have q0 := cell_grow hgr (hcell _ _ h0)
          simp only [Value.slice.injEq] at hv
          obtain ⟨rfl, hv2, rfl⟩ := hv
          have htk : (d1 ++ ((dups.take k).map be4).flatten) ++ be4 dups[k] = d1 ++ ((dups.take (k + 1)).map be4).flatten := by
            rw [List.take_add_one, List.getElem?_eq_getElem hkd, List.map_append, List.flatten_append]
            simp only [Option.toList_some, List.map_cons, List.map_nil, List.flatten_cons, List.flatten_nil, List.append_nil, List.append_assoc]
          have hdl : (d1 ++ ((dups.take k).map be4).flatten).length ≤ 10000 := by rw [List.length_append, dups_length, List.length_take, Nat.min_eq_left (by omega)]; omega
          obtain ⟨p, hpe⟩ : ∃ p, p = dups[k] := ⟨_, rfl⟩
          rw [← hpe] at q0 htk hp
          obtain ⟨d0, hd0⟩ : ∃ d0, d0 = d1 ++ ((dups.take k).map be4).flatten := ⟨_, rfl⟩
          rw [← hd0] at hrd htk hdl
          have HTK := Lib.hid htk
          clear hv2 hcell h0 hpe hd0 htk
          have hltI : (k : Int) < (D : Int) := by omega
          have n5 : IntKind.i64.wrap (p : Int) = (p : Int) := by rw [IntKind.wrap_i64]; omega
          go_wp2_with (go_loud (go_at_call 19; (with_reducible refine (number4 p _).mono ?_); rintro e w2 ⟨a2, c2, rfl, ho2, hg2⟩))
          have hj := joined_any _ [d0, be4 p] (d0.length + 4) _ (rdbs_new w2 _ 2 rfl [_, _] _ 28 ⟨hrd.grow hg2, ho2.rd, trivial⟩ rfl) (by simp [be4]; omega) (by simp) (by simp [be4])
          go_wp2_with (go_loud (go_at_call 18; refine hj.mono ?_; rintro e w3 ⟨a3, c3, rfl, ho3, hg3⟩))
          have h3 : RdB w3 (.slice a3 (d0.length + 4) c3) (d0 ++ be4 p) := by simpa using ho3.rd
          rw [HTK.out] at h3
          clear ho3 hj
          go_roundw
          case rel => exact ⟨k + 1, a3, _, c3, by omega, by go_num, rfl, h3, (hgr.trans hg2).trans ((grow_alloc _ _).trans hg3)⟩
          case measure => simp [intOf]; omega
        · obtain rfl : D = k := by omega
          have hall : d1 ++ ((dups.take D).map be4).flatten = sackB tsn win gaps dups := by
            rw [HD.out, List.take_length, HD1.out, HG.out, HD.out]; simp [sackH, sackB]
          rw [hall] at hrd
          clear hall
          have hln := sackB_length tsn win gaps dups
          have hc := chunk_any 3 0 (.slice ta m tc) (sackB tsn win gaps dups) wr hrd (by omega) (by omega) (by rw [hln, ← HG.out, ← HD.out]; omega)
          rw [show ((3 : Nat) : Int) = 3 from rfl, show ((0 : Nat) : Int) = 0 from rfl] at hc
          clear hln
          obtain ⟨N, hN⟩ : ∃ N, N = (sackB tsn win gaps dups).length := ⟨_, rfl⟩
          rw [← hN] at hc ⊢
          have HN := Lib.hid hN
          clear hN
          go_wp2_with (go_loud (go_at_call 21; (with_reducible refine hc.mono ?_); rintro e w2 ⟨a2, c2, rfl, ho2, hg2⟩))
          go_ret
          exact RetB.fin hgr ho2 hg2 (by rw [chunkB_length])
end Go.Proofs.YtdpmbchamefkmaaGreatDoor
