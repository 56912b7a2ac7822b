/-
The reference: a chunk of user data.
-/
import Derived.Test.YtdpmbchamefkmaaGreatDoorSpec7
import Derived.Test.YtdpmbchamefkmaaGreatDoorData0
import Derived.Test.YtdpmbchamefkmaaGreatDoorArgs
namespace Go.Proofs.YtdpmbchamefkmaaGreatDoor
open Go.RowKit

theorem flag_ori (un be en im : Bool) : ∃ x1 x2 x3 x4 y2 y3 : Int, x1 = (if en then 1 else 0) ∧ x2 = (if be then 2 else 0) ∧ x3 = (if un then 4 else 0) ∧ x4 = (if im then 8 else 0) ∧
    bits .or .i64 x1 x2 = y2 ∧ bits .or .i64 y2 x3 = y3 ∧ bits .or .i64 y3 x4 = ((flagN un be en im : Nat) : Int) := by
  refine ⟨_, _, _, _, _, _, rfl, rfl, rfl, rfl, rfl, rfl, ?_⟩
  revert un be en im; decide

theorem flag_grow (b : Bool) (n x : Int) (hx : x = if b then n else 0) (w : World) : Calls Tryz.prog 34 #[.bool b, .int .i64 n] w fun e w' => e = .returned (.int .i64 x) ∧ Grow w w' := by
  subst hx
  exact (flag_any b n w).mono fun e w' h => ⟨h.1, h.2 ▸ Grow.refl _⟩

set_option maxRecDepth 100000 in
set_option maxHeartbeats 4000000 in
theorem specData_any (un be en im : Bool) (tsn sid seq ppi : Nat) (user : List UInt8) (ua : Option Addr) (uc : Nat) (w : World) (hr : RdB w (.slice ua user.length uc) user) (htsn : tsn < 4294967296) (hppi : ppi < 4294967296) (hU : user.length ≤ 5000) :
    Calls Tryz.prog 28 #[.agg #[.bool un, .bool be, .bool en, .bool im, .int .u32 tsn, .int .i64 sid, .int .i64 seq, .int .u32 ppi, .slice ua user.length uc]] w (RetB w (4 + (dataB tsn sid seq ppi user).length) (chunkB 0 (flagN un be en im) (dataB tsn sid seq ppi user))) := by
  have hlen := dataB_length tsn sid seq ppi user
  have hfl := flagN_lt un be en im
  obtain ⟨x1, x2, x3, x4, y2, y3, h1, h2, h3, h4, e2, e3, e4⟩ := flag_ori un be en im
  have c1 := flag_grow en 1 x1 h1
  have c2 := flag_grow be 2 x2 h2
  have c3 := flag_grow un 4 x3 h3
  have c4 := flag_grow im 8 x4 h4
  have hall : [be4 tsn, be2 sid, be2 seq, be4 ppi, user].flatten = dataB tsn sid seq ppi user := by simp [dataB]
  obtain ⟨F, hF⟩ : ∃ F, F = flagN un be en im := ⟨_, rfl⟩
  obtain ⟨U, hUe⟩ : ∃ U, U = user.length := ⟨_, rfl⟩
  obtain ⟨N, hN⟩ : ∃ N, N = (dataB tsn sid seq ppi user).length := ⟨_, rfl⟩
  rw [← hN]
  rw [← hN, ← hUe] at hlen
  rw [← hUe] at hU hr ⊢
  rw [← hF] at hfl e4 ⊢
  have n0 : IntKind.i64.wrap (tsn : Int) = (tsn : Int) := by rw [IntKind.wrap_i64]; omega
  have n1 : IntKind.i64.wrap (ppi : Int) = (ppi : Int) := by rw [IntKind.wrap_i64]; omega
  have HU := Lib.hid hUe
  have HN := Lib.hid hN
  have HL := Lib.hid hlen
  have hNl : N ≤ 6000 := by omega
  clear hUe hN hF hlen h1 h2 h3 h4
  go_enter Tryz.func28, Tryz.ntmps28
  go_wp2
  have hbx := Blk.new w 59 [.bool un, .bool be, .bool en, .bool im, .int .u32 tsn, .int .i64 sid, .int .i64 seq, .int .u32 ppi, .slice ua U uc]
  obtain ⟨x, hx⟩ : ∃ b, b = w.heap.size := ⟨_, rfl⟩
  rw [← hx] at hbx ⊢
  refine wp_at (fun w' => Blk w' x 59 [.bool un, .bool be, .bool en, .bool im, .int .u32 tsn, .int .i64 sid, .int .i64 seq, .int .u32 ppi, .slice ua U uc] ∧ Grow w w') ⟨hbx, grow_alloc _ _⟩ ?_
  clear hbx hx
  rintro w0 ⟨hb0, hg0⟩
  have k0 := fun w' (h : Grow w0.drew w') => (hb0.grow (grow_drew h)).cell 0 _ rfl
  have k1 := fun w' (h : Grow w0.drew w') => (hb0.grow (grow_drew h)).cell 1 _ rfl
  have k2 := fun w' (h : Grow w0.drew w') => (hb0.grow (grow_drew h)).cell 2 _ rfl
  have k3 := fun w' (h : Grow w0.drew w') => (hb0.grow (grow_drew h)).cell 3 _ rfl
  have cl1 := fun w' (_ : Grow w0.drew w') => c1 w'
  have cl2 := fun w' (_ : Grow w0.drew w') => c2 w'
  have cl3 := fun w' (_ : Grow w0.drew w') => c3 w'
  have cl4 := fun w' (_ : Grow w0.drew w') => c4 w'
  (refine wp_region_calmK 15 39 Tryz.mixed rfl (by kernel_rfl) (fun T hT => ?_); simp only [List.take_succ_cons, List.take_zero, List.drop_succ_cons, List.drop_zero] at hT ⊢)
  iterate 2 (apply calm_val (D' := []) (hD := rfl); (· intro wZ1 hwZ1; simp only [fillAll]; go_simp; exact ⟨rfl, Grow.refl _⟩); simp only [Act.put, List.setIfInBounds_toArray, List.set_cons_succ, List.set_cons_zero])
  (apply calm_val (D' := []) (hD := rfl); (· intro wZ3 hwZ3; simp only [fillAll]; go_simp; refine ⟨Grow.refl _, (cl1 wZ3 hwZ3).mono ?_⟩; exact fun e wZ4 h => ⟨_, h.1, rfl, h.2⟩); simp only [Act.put, List.setIfInBounds_toArray, List.set_cons_succ, List.set_cons_zero])
  iterate 2 (apply calm_val (D' := []) (hD := rfl); (· intro wZ1 hwZ1; simp only [fillAll]; go_simp; exact ⟨rfl, Grow.refl _⟩); simp only [Act.put, List.setIfInBounds_toArray, List.set_cons_succ, List.set_cons_zero])
  (apply calm_val (D' := []) (hD := rfl); (· intro wZ3 hwZ3; simp only [fillAll]; go_simp; refine ⟨Grow.refl _, (cl2 wZ3 hwZ3).mono ?_⟩; exact fun e wZ4 h => ⟨_, h.1, rfl, h.2⟩); simp only [Act.put, List.setIfInBounds_toArray, List.set_cons_succ, List.set_cons_zero])
  iterate 3 (apply calm_val (D' := []) (hD := rfl); (· intro wZ1 hwZ1; simp only [fillAll]; go_simp; exact ⟨rfl, Grow.refl _⟩); simp only [Act.put, List.setIfInBounds_toArray, List.set_cons_succ, List.set_cons_zero])
  (apply calm_val (D' := []) (hD := rfl); (· intro wZ3 hwZ3; simp only [fillAll]; go_simp; refine ⟨Grow.refl _, (cl3 wZ3 hwZ3).mono ?_⟩; exact fun e wZ4 h => ⟨_, h.1, rfl, h.2⟩); simp only [Act.put, List.setIfInBounds_toArray, List.set_cons_succ, List.set_cons_zero])
  iterate 3 (apply calm_val (D' := []) (hD := rfl); (· intro wZ1 hwZ1; simp only [fillAll]; go_simp; exact ⟨rfl, Grow.refl _⟩); simp only [Act.put, List.setIfInBounds_toArray, List.set_cons_succ, List.set_cons_zero])
  (apply calm_val (D' := []) (hD := rfl); (· intro wZ3 hwZ3; simp only [fillAll]; go_simp; refine ⟨Grow.refl _, (cl4 wZ3 hwZ3).mono ?_⟩; exact fun e wZ4 h => ⟨_, h.1, rfl, h.2⟩); simp only [Act.put, List.setIfInBounds_toArray, List.set_cons_succ, List.set_cons_zero])
  (apply calm_val (D' := []) (hD := rfl); (· intro wZ1 hwZ1; simp only [fillAll]; go_simp; exact ⟨rfl, Grow.refl _⟩); simp only [Act.put, List.setIfInBounds_toArray, List.set_cons_succ, List.set_cons_zero])
  (intro w1 hw1; simp only [fillAll]; refine hT _ _ ?_; clear hT T)
  have hb1 := hb0.grow (grow_drew hw1)
  have hg1 := hg0.trans (grow_drew hw1)
  clear hw1 k0 k1 k2 k3 cl1 cl2 cl3 cl4 c1 c2 c3 c4 hb0 hg0 e2 e3 e4
  have k4 := fun w' (h : Grow w1.drew w') => (hb1.grow (grow_drew h)).cell 4 _ rfl
  have k5 := fun w' (h : Grow w1.drew w') => (hb1.grow (grow_drew h)).cell 5 _ rfl
  have k6 := fun w' (h : Grow w1.drew w') => (hb1.grow (grow_drew h)).cell 6 _ rfl
  have k7 := fun w' (h : Grow w1.drew w') => (hb1.grow (grow_drew h)).cell 7 _ rfl
  have k8 := fun w' (h : Grow w1.drew w') => (hb1.grow (grow_drew h)).cell 8 _ rfl
  go_wp2
  (refine wp_region_calmK 20 39 Tryz.mixed rfl (by kernel_rfl) (fun T hT => ?_); simp only [List.take_succ_cons, List.take_zero, List.drop_succ_cons, List.drop_zero] at hT ⊢)
  iterate 4 (apply calm_val (D' := []) (hD := rfl); (· intro wZ1 hwZ1; simp only [fillAll]; go_simp; exact ⟨rfl, Grow.refl _⟩); simp only [Act.put, List.setIfInBounds_toArray, List.set_cons_succ, List.set_cons_zero])
  refine calm_new [] (fun u w => RdB w u (be4 tsn)) 23 rfl rfl (RdB.stable _) (fun w1 hw1 => ?_) ?_
  · simp only [fillAll]
    go_simp
    refine ⟨Grow.refl _, (number4 tsn w1).mono ?_⟩
    rintro e w2 ⟨a3, c3, rfl, ho2, hb2⟩
    exact ⟨_, rfl, ho2.rd, hb2⟩
  iterate 2 (apply calm_val (D' := []) (hD := rfl); (· intro wZ1 hwZ1; simp only [fillAll]; go_simp; exact ⟨rfl, Grow.refl _⟩); simp only [Act.put, List.setIfInBounds_toArray, List.set_cons_succ, List.set_cons_zero])
  refine calm_new [] (fun u w => RdB w u (be2 sid)) 26 rfl rfl (RdB.stable _) (fun w1 hw1 => ?_) ?_
  · simp only [fillAll]
    go_simp
    refine ⟨Grow.refl _, (number2 sid w1).mono ?_⟩
    rintro e w2 ⟨a3, c3, rfl, ho2, hb2⟩
    exact ⟨_, rfl, ho2.rd, hb2⟩
  iterate 2 (apply calm_val (D' := []) (hD := rfl); (· intro wZ1 hwZ1; simp only [fillAll]; go_simp; exact ⟨rfl, Grow.refl _⟩); simp only [Act.put, List.setIfInBounds_toArray, List.set_cons_succ, List.set_cons_zero])
  refine calm_new [] (fun u w => RdB w u (be2 seq)) 29 rfl rfl (RdB.stable _) (fun w1 hw1 => ?_) ?_
  · simp only [fillAll]
    go_simp
    refine ⟨Grow.refl _, (number2 seq w1).mono ?_⟩
    rintro e w2 ⟨a3, c3, rfl, ho2, hb2⟩
    exact ⟨_, rfl, ho2.rd, hb2⟩
  iterate 3 (apply calm_val (D' := []) (hD := rfl); (· intro wZ1 hwZ1; simp only [fillAll]; go_simp; exact ⟨rfl, Grow.refl _⟩); simp only [Act.put, List.setIfInBounds_toArray, List.set_cons_succ, List.set_cons_zero])
  refine calm_new [] (fun u w => RdB w u (be4 ppi)) 33 rfl rfl (RdB.stable _) (fun w1 hw1 => ?_) ?_
  · simp only [fillAll]
    go_simp
    refine ⟨Grow.refl _, (number4 ppi w1).mono ?_⟩
    rintro e w2 ⟨a3, c3, rfl, ho2, hb2⟩
    exact ⟨_, rfl, ho2.rd, hb2⟩
  iterate 2 (apply calm_val (D' := []) (hD := rfl); (· intro wZ1 hwZ1; simp only [fillAll]; go_simp; exact ⟨rfl, Grow.refl _⟩); simp only [Act.put, List.setIfInBounds_toArray, List.set_cons_succ, List.set_cons_zero])
  refine calm_new [(33, fun u w => RdB w u (be4 ppi)), (29, fun u w => RdB w u (be2 seq)), (26, fun u w => RdB w u (be2 sid)), (23, fun u w => RdB w u (be4 tsn))] (fun u w => RdBs w u [be4 tsn, be2 sid, be2 seq, be4 ppi, user]) 36 rfl rfl (RdBs.stable _) (fun w2 hw2 => ?_) ?_
  · simp only [fillAll]
    intro u33 (h33 : RdB w2 u33 (be4 ppi)) u29 (h29 : RdB w2 u29 (be2 seq)) u26 (h26 : RdB w2 u26 (be2 sid)) u23 (h23 : RdB w2 u23 (be4 tsn))
    obtain ⟨a33, c33, he33⟩ := h33.form
    obtain ⟨a29, c29, he29⟩ := h29.form
    obtain ⟨a26, c26, he26⟩ := h26.form
    obtain ⟨a23, c23, he23⟩ := h23.form
    rw [he33] at h33 ⊢
    rw [he29] at h29 ⊢
    rw [he26] at h26 ⊢
    rw [he23] at h23 ⊢
    clear he33 he29 he26 he23
    simp only [Act.put, List.setIfInBounds_toArray, List.set_cons_succ, List.set_cons_zero]
    go_simp
    exact ⟨rdbs_new w2 _ 5 rfl [_, _, _, _, _] _ 28 ⟨h23, h26, h29, h33, hr.grow (hg1.trans (grow_drew hw2)), trivial⟩ rfl, grow_alloc _ _⟩
  refine calm_new [(36, fun u w => RdBs w u [be4 tsn, be2 sid, be2 seq, be4 ppi, user])] (fun u w => RdB w u (dataB tsn sid seq ppi user)) 37 rfl rfl (RdB.stable _) (fun w2 hw2 => ?_) ?_
  · simp only [fillAll]
    intro u hu
    simp only [Act.put, List.setIfInBounds_toArray, List.set_cons_succ, List.set_cons_zero]
    go_simp
    refine ⟨Grow.refl _, (joined_any _ [be4 tsn, be2 sid, be2 seq, be4 ppi, user] N w2 hu (by have := HU.out; simp [be4, be2]; omega) (by simp) (by rw [hall, HN.out])).mono ?_⟩
    rintro e w3 ⟨a3, c3, rfl, ho2, hb2⟩
    rw [hall] at ho2
    exact ⟨_, rfl, ho2.rd, hb2⟩
  refine calm_new [(37, fun u w => RdB w u (dataB tsn sid seq ppi user))] (fun u w' => OwnB w' w.heap.size u (chunkB 0 F (dataB tsn sid seq ppi user))) 38 rfl rfl (OwnB.stable _ _) (fun w2 hw2 => ?_) ?_
  · simp only [fillAll]
    intro u hu
    simp only [Act.put, List.setIfInBounds_toArray, List.set_cons_succ, List.set_cons_zero]
    go_simp
    have hc := chunk_any 0 F u (dataB tsn sid seq ppi user) w2 hu (by omega) (by omega) (by rw [← HN.out]; omega)
    rw [show ((0 : Nat) : Int) = 0 from rfl] at hc
    refine ⟨Grow.refl _, hc.mono ?_⟩
    rintro e w3 ⟨a3, c3, rfl, ho2, hb2⟩
    exact ⟨_, rfl, ho2.mono (hg1.trans (grow_drew hw2)).size, hb2⟩
  intro w2 hw2
  simp only [fillAll]
  intro u38 h38 u37 h37 u36 h36 u33 h33 u29 h29 u26 h26 u23 h23
  clear h37 h36 h33 h29 h26 h23
  obtain ⟨a38, c38, rfl⟩ := OwnB.form h38
  rw [chunkB_length, ← HN.out] at h38 ⊢
  simp only [Act.put, List.setIfInBounds_toArray, List.set_cons_succ, List.set_cons_zero]
  refine hT _ _ ?_
  clear hT T k4 k5 k6 k7 k8
  have hg2 := hg1.trans (grow_drew hw2)
  clear hw2
  go_wp2
  go_ret
  exact ⟨a38, c38, rfl, h38, hg2⟩

/-- what IsData asks -/
def DatOk (sid seq : Int) (U : Nat) : Prop := 0 ≤ sid ∧ sid ≤ 65535 ∧ 0 ≤ seq ∧ seq ≤ 65535 ∧ 0 < U ∧ U ≤ 4096

set_option maxRecDepth 20000 in
set_option maxHeartbeats 2000000 in
theorem isData_any (c0 c1 c2 c3 c4 c7 : Value) (sid seq : Int) (ua : Option Addr) (U uc : Nat) (w : World) :
    Calls Tryz.prog 26 #[.agg #[c0, c1, c2, c3, c4, .int .i64 sid, .int .i64 seq, c7, .slice ua U uc]] w (Ans (DatOk sid seq U) w) := by
  have fin : ∀ r : Bool, (r = true → DatOk sid seq U) → ∀ o, Ans (DatOk sid seq U) w (.returned (.bool r)) (w.alloc o) := fun r h o => ⟨r, rfl, h, grow_alloc _ _⟩
  go_enter Tryz.func26, Tryz.ntmps26
  by_cases a0 : 0 ≤ sid
  · by_cases a1 : sid ≤ 65535
    · by_cases a2 : 0 ≤ seq
      · by_cases a3 : seq ≤ 65535
        · by_cases a4 : 0 < U
          · have a4' : (0 : Int) < (U : Int) := by omega
            by_cases a5 : U ≤ 4096
            · have a5' : (U : Int) ≤ 4096 := by omega
              go_wp2
              go_ret
              exact fin true (fun _ => ⟨a0, a1, a2, a3, a4, a5⟩) _
            · have a5' : ¬ (U : Int) ≤ 4096 := by omega
              go_wp2
              go_ret
              exact fin false (by simp) _
          · have a4' : ¬ (0 : Int) < (U : Int) := by omega
            go_wp2
            go_ret
            exact fin false (by simp) _
        · go_wp2
          go_ret
          exact fin false (by simp) _
      · go_wp2
        go_ret
        exact fin false (by simp) _
    · go_wp2
      go_ret
      exact fin false (by simp) _
  · go_wp2
    go_ret
    exact fin false (by simp) _
end Go.Proofs.YtdpmbchamefkmaaGreatDoor
