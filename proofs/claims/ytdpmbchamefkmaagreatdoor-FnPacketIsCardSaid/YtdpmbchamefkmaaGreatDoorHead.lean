/-
A chunk's header.
-/
import Derived.Test.YtdpmbchamefkmaaGreatDoorBuf
import Derived.Test.YtdpmbchamefkmaaGreatDoorSpec6
namespace Go.Proofs.YtdpmbchamefkmaaGreatDoor
open Go.RowKit

theorem chunk_put (a b : UInt8) (l : List UInt8) (x : Nat) : putL (putL (((zerosB (4 + l.length)).set 0 a).set 1 b) 2 (be2 x)) 4 l = [a, b] ++ be2 x ++ l := by
  rw [zerosB, Nat.add_comm, List.replicate_succ, List.replicate_succ, List.replicate_succ, List.replicate_succ]
  simp [putL, be2, Nat.add_comm]

theorem head_text (typ flags : Nat) (l : List UInt8) : [UInt8.ofNat typ, UInt8.ofNat flags] ++ be2 (l.length + 4) ++ l = chunkB typ flags l := by
  simp [chunkB, Nat.add_comm]

set_option maxRecDepth 20000 in
set_option maxHeartbeats 1000000 in
theorem valueLength_any (b T : Nat) (c0 c1 : Value) (ao : Option Addr) (n c : Nat) (tl : List Value) (w : World) (hb : Blk w b T (c0 :: c1 :: .slice ao n c :: tl)) :
    Calls Tryz.prog 67 #[.pointer (some ⟨b, 0, none⟩)] w fun e w' => e = .returned (.int .i64 n) ∧ Grow w w' := by
  have h2 := hb.cell 2 _ rfl
  go_enter Tryz.func67, Tryz.ntmps67
  go_wp2
  go_ret
  exact ⟨rfl, Grow.refl _⟩

set_option maxRecDepth 20000 in
set_option maxHeartbeats 1000000 in
theorem headMarshal_any (b T typ flags : Nat) (raw : Value) (l : List UInt8) (tl : List Value) (w : World) (hb : Blk w b T (.int .u8 typ :: .int .u8 flags :: raw :: tl)) (hr : RdB w raw l)
    (ht : typ < 256) (hf : flags < 256) (hl : l.length + 4 < 65536) :
    Calls Tryz.prog 69 #[.pointer (some ⟨b, 0, none⟩)] w fun e w' => ∃ g, e = .returned (.tuple #[.slice (some ⟨g, 0, none⟩) (4 + l.length) (4 + l.length), .nilIface]) ∧ w.heap.size ≤ g ∧ Blk w' g 5 (bc (chunkB typ flags l)) ∧ Grow w w' := by
  obtain ⟨ao, c, rfl⟩ := hr.form
  have h0 : ∀ w', Grow w w' → w'.cell? ⟨b, 0, none⟩ = some (.int .u8 typ) := fun w' h => (hb.grow h).cell 0 _ rfl
  have h1 : ∀ w', Grow w w' → w'.cell? ⟨b, 1, none⟩ = some (.int .u8 flags) := fun w' h => (hb.grow h).cell 1 _ rfl
  have h2 : ∀ w', Grow w w' → w'.cell? ⟨b, 2, none⟩ = some (.slice ao l.length c) := fun w' h => (hb.grow h).cell 2 _ rfl
  have hg := Grow.refl w
  go_enter Tryz.func69, Tryz.ntmps69
  go_wp2_with (refine wpl_makeB rfl _ _ rfl _ _ _ (4 + l.length) rfl rfl ?_ (by omega) ?_)
  · simp
  intro g w1 hgle hbuf hg1
  have f0 := hbuf.free 0
  obtain ⟨u0, k0⟩ := blkB_cell hbuf 0 (by rw [zerosB_length]; omega)
  have f1 := hbuf.free 1
  obtain ⟨u1, k1⟩ := blkB_cell hbuf 1 (by rw [zerosB_length]; omega)
  go_wp2
  have hb2 := blkB_set (blkB_set hbuf 0 (UInt8.ofNat typ) (.int .u8 typ) (byte_val typ typ (by omega))) 1 (UInt8.ofNat flags) (.int .u8 flags) (byte_val flags flags (by omega))
  refine wp_at (fun w2 => Blk w2 g 5 (bc (((zerosB (4 + l.length)).set 0 (UInt8.ofNat typ)).set 1 (UInt8.ofNat flags))) ∧ Grow w w2) ⟨hb2, ((Only.setCell _ _ _ _).trans (Only.setCell _ _ _ _)).below hg1 hgle⟩ ?_
  clear hb2 f0 k0 f1 k1 hbuf hg1
  rintro w2 ⟨hbuf, hg2⟩
  have e2 := fun w1 (h : Grow w2.drew w1) => h2 w1 (hg2.trans (grow_drew h))
  have hcut := cutbuf1 g 2 (2 + l.length) (4 + l.length) 2 rfl (by omega) (by omega)
  have hl5 : l.length < 65532 := by omega
  obtain ⟨N, hN⟩ : ∃ N, N = l.length + 4 := ⟨_, rfl⟩
  have n1 : IntKind.i64.wrap ((l.length : Int) + 4) = (N : Int) := by rw [IntKind.wrap_i64]; omega
  have n2 : IntKind.u16.wrap (N : Int) = (N : Int) := by rw [IntKind.wrap_u16]; omega
  have HT := Lib.hid (chunk_put (UInt8.ofNat typ) (UInt8.ofNat flags) l (l.length + 4))
  rw [head_text, ← hN] at HT
  rw [← hN] at hl
  have HN := Lib.hid hN
  clear hN
  (refine wp_region_calmK 10 43 Tryz.mixed rfl (by kernel_rfl) (fun T hT => ?_); simp only [List.take_succ_cons, List.take_zero, List.drop_succ_cons, List.drop_zero] at hT ⊢)
  iterate 10 (apply calm_val (D' := []) (hD := rfl); (· intro wZ1 hwZ1; simp only [fillAll]; go_simp; exact ⟨rfl, Grow.refl _⟩); simp only [Act.put, List.setIfInBounds_toArray, List.set_cons_succ, List.set_cons_zero])
  (intro w3 hw3; simp only [fillAll]; refine hT _ _ ?_; clear hT T)
  have hg3 := hg2.trans (grow_drew hw3)
  have hbuf := hbuf.grow (grow_drew hw3)
  clear hw3 e2
  have hbl : (((zerosB (4 + l.length)).set 0 (UInt8.ofNat typ)).set 1 (UInt8.ofNat flags)).length = 4 + l.length := by simp [zerosB_length]
  generalize ((zerosB (4 + l.length)).set 0 (UInt8.ofNat typ)).set 1 (UInt8.ofNat flags) = cur at *
  go_wp2_with (go_at_call 40; (with_reducible refine (bufP16 g 2 (2 + l.length) (2 + l.length) _ N w3 hbuf (by omega) hl (by omega) (by omega)).mono ?_); rintro e w4 ⟨rfl, hbuf4, ho4⟩)
  have hg4 := ho4.below hg3 hgle
  have hbl4 : (putL cur 2 (be2 N)).length = 4 + l.length := by rw [putL_length _ _ _ (by rw [be2_length]; omega), hbl]
  generalize putL cur 2 (be2 N) = cur2 at *
  have e4 := fun w1 (h : Grow w4.drew w1) => h2 w1 (hg4.trans (grow_drew h))
  obtain ⟨ad, had, hcut4⟩ := cutbuf g 4 l.length (4 + l.length) 4 rfl rfl
  (refine wp_region_calmK 6 43 Tryz.mixed rfl (by kernel_rfl) (fun T hT => ?_); simp only [List.take_succ_cons, List.take_zero, List.drop_succ_cons, List.drop_zero] at hT ⊢)
  iterate 6 (apply calm_val (D' := []) (hD := rfl); (· intro wZ1 hwZ1; simp only [fillAll]; go_simp; exact ⟨rfl, Grow.refl _⟩); simp only [Act.put, List.setIfInBounds_toArray, List.set_cons_succ, List.set_cons_zero])
  (intro w5 hw5; simp only [fillAll]; refine hT _ _ ?_; clear hT T)
  have hg5 := hg4.trans (grow_drew hw5)
  have hbuf5 := hbuf4.grow (grow_drew hw5)
  clear hw5 e4
  go_wp2_with (refine wpl_copyB rfl _ _ rfl g 4 l.length l.length ad cur2 _ l rfl had rfl hbuf5 (hr.grow hg5) (Nat.le_refl _) (by omega) ?_)
  intro w6 hb6 ho6
  go_wp2
  go_ret2
  refine ⟨g, rfl, hgle, ?_, ho6.below hg5 hgle⟩
  rw [← HT.out]
  exact hb6
end Go.Proofs.YtdpmbchamefkmaaGreatDoor
