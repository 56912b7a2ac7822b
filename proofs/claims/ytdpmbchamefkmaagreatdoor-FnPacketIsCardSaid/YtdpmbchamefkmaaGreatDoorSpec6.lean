/-
The reference: the checksum of a packet.
-/
import Derived.Test.YtdpmbchamefkmaaGreatDoorSpec5
namespace Go.Proofs.YtdpmbchamefkmaaGreatDoor
open Go.RowKit

/-- A packet, its checksum's field taken as noughts. -/
def bareB (l : List UInt8) : List UInt8 := [l.take 8, z4, l.drop 12].flatten

theorem bareB_length (l : List UInt8) (h : 12 ≤ l.length) : (bareB l).length = l.length := by simp [bareB, z4]; omega

theorem bare_joined (v : Value) (l : List UInt8) (w : World) (hv : RdBs w v [l.take 8, z4, l.drop 12]) (h12 : 12 ≤ l.length) (hlen : l.length ≤ 140737488355000) :
    Calls Tryz.prog 18 #[v] w (RetB w l.length (bareB l)) :=
  joined_any v [l.take 8, z4, l.drop 12] l.length w hv (by have := bareB_length l h12; unfold bareB at this; omega) (by simp) (bareB_length l h12)

set_option maxHeartbeats 1000000 in
set_option maxRecDepth 20000 in
theorem specChecksum_any (v : Value) (l : List UInt8) (w : World) (hv : RdB w v l) (h12 : 12 ≤ l.length) (hlen : l.length ≤ 140737488355000) :
    Calls Tryz.prog 20 #[v] w fun e w' => e = .returned (.int .u32 (Crc.crc (nats (bareB l)) : Nat)) ∧ Grow w w' := by
  obtain ⟨a1, c1, hcut1, hr1⟩ := cut_h hv 8 8 rfl (by omega)
  obtain ⟨a2, c2, hcut2, hr2⟩ := cut_l hv 12 (l.length - 12) 12 rfl (by omega)
  have HL := Lib.hid (bareB_length l h12)
  go_enter Tryz.func20, Tryz.ntmps20
  go_wp2
  refine wp_region_calm 8 11 Tryz.mixed rfl (by kernel_rfl) ?_
  simp only [List.take_succ_cons, List.take_zero, List.drop_succ_cons, List.drop_zero]
  apply calm_val (D' := []) (hD := rfl)
  · intro w1 hw1
    simp only [fillAll]
    go_simp
    exact ⟨rfl, Grow.refl _⟩
  simp only [Act.put, List.setIfInBounds_toArray, List.set_cons_succ, List.set_cons_zero]
  apply calm_val (D' := []) (hD := rfl)
  · intro w1 hw1
    simp only [fillAll]
    go_simp
    exact ⟨rfl, Grow.refl _⟩
  simp only [Act.put, List.setIfInBounds_toArray, List.set_cons_succ, List.set_cons_zero]
  refine calm_new [] (fun u w => RdB w u z4) 5 rfl rfl (RdB.stable _) (fun w1 hw1 => ?_) ?_
  · simp only [fillAll]
    have hmk := run_make4
    go_simp
    exact ⟨rd_make4 _ _ rfl, grow_alloc _ _⟩
  apply calm_val (D' := []) (hD := rfl)
  · intro w1 hw1
    simp only [fillAll]
    go_simp
    exact ⟨rfl, Grow.refl _⟩
  simp only [Act.put, List.setIfInBounds_toArray, List.set_cons_succ, List.set_cons_zero]
  apply calm_val (D' := []) (hD := rfl)
  · intro w1 hw1
    simp only [fillAll]
    go_simp
    exact ⟨rfl, Grow.refl _⟩
  simp only [Act.put, List.setIfInBounds_toArray, List.set_cons_succ, List.set_cons_zero]
  refine calm_new [(5, fun u w => RdB w u z4)] (fun u w => RdBs w u [l.take 8, z4, l.drop 12]) 8 rfl rfl (RdBs.stable _) (fun w1 hw1 => ?_) ?_
  · simp only [fillAll]
    intro u (hu : RdB w1 u z4)
    obtain ⟨au, cu, he⟩ := RdB.form hu
    rw [he] at hu ⊢
    clear he
    simp only [Act.put, List.setIfInBounds_toArray, List.set_cons_succ, List.set_cons_zero]
    go_simp
    exact ⟨rdbs_new w1 _ 3 rfl [_, _, _] _ 28 ⟨hr1 _ (hv.grow (grow_drew hw1)), hu, hr2 _ (hv.grow (grow_drew hw1)), trivial⟩ rfl, grow_alloc _ _⟩
  refine calm_new [(8, fun u w => RdBs w u [l.take 8, z4, l.drop 12])] (fun u w => RdB w u (bareB l)) 9 rfl rfl (RdB.stable _) (fun w1 hw1 => ?_) ?_
  · simp only [fillAll]
    intro u hu
    simp only [Act.put, List.setIfInBounds_toArray, List.set_cons_succ, List.set_cons_zero]
    go_simp
    refine ⟨Grow.refl _, (bare_joined _ l _ hu h12 hlen).mono ?_⟩
    rintro e w2 ⟨a3, c3, rfl, ho2, hb2⟩
    exact ⟨_, rfl, ho2.rd, hb2⟩
  apply calm_val (D' := [(9, fun u w => RdB w u (bareB l))]) (hD := rfl)
  · intro w1 hw1
    simp only [fillAll]
    intro u hu
    simp only [Act.put, List.setIfInBounds_toArray, List.set_cons_succ, List.set_cons_zero]
    go_simp
    refine ⟨Grow.refl _, (crc_any _ _ _ hu (by rw [HL.out]; omega)).mono ?_⟩
    rintro e w2 ⟨rfl, hb2⟩
    exact ⟨_, rfl, rfl, hb2⟩
  intro w1 hw1
  simp only [fillAll]
  intro u9 h9 u8 h8 u5 h5
  clear h9 h8 h5
  simp only [Act.put, List.setIfInBounds_toArray, List.set_cons_succ, List.set_cons_zero]
  go_wp2
  go_ret
  exact ⟨rfl, grow_drew hw1⟩
end Go.Proofs.YtdpmbchamefkmaaGreatDoor
