/-
The reference: a packet, walked.
-/
import Derived.Test.YtdpmbchamefkmaaGreatDoorSpec8
namespace Go.Proofs.YtdpmbchamefkmaaGreatDoor
open Go.RowKit

/-- the checksum of a packet -/
def sumOf (src dst tag : Nat) (ls : List (List UInt8)) : Nat := Crc.crc (nats (packB src dst tag 0 ls))
theorem sumOf_lt (src dst tag : Nat) (ls : List (List UInt8)) : sumOf src dst tag ls < 4294967296 := Crc.inv_lt _
theorem sumOf_is (src dst tag s : Nat) (ls : List (List UInt8)) : sumOf src dst tag ls = Crc.crc (nats (bareB (packB src dst tag s ls))) := by rw [bare_pack]; rfl
theorem pack_sum (src dst tag s : Nat) (ls : List (List UInt8)) : putL (packB src dst tag 0 ls) 8 (le4 s) = packB src dst tag s ls := by
  simp [putL, packB, hdB, be2, be4, le4]

theorem own_some {w : World} {B n cap : Nat} {va : Option Addr} {l : List UInt8} (h : OwnB w B (.slice va n cap) l) (hl : 0 < l.length) : ∃ g, va = some ⟨g, 0, none⟩ ∧ n = l.length ∧ n ≤ cap := by
  rcases h.2 with ⟨h', h0⟩ | ⟨g', cap', cur, h', _, _, hc, _⟩
  · omega
  · simp only [Value.slice.injEq] at h'
    exact ⟨g', h'.1, h'.2.1, by omega⟩

set_option maxRecDepth 100000 in
set_option maxHeartbeats 4000000 in
theorem specPacket_any (src dst tag : Nat) (v : Value) (ls : List (List UInt8)) (w : World) (hv : RdBs w v ls) (htag : tag < 4294967296) (hlen : (body ls).length ≤ 1000000) (hnum : ls.length ≤ 100000) :
    Calls Tryz.prog 8 #[.int .i64 src, .int .i64 dst, .int .u32 tag, v, .bool true] w (RetB w (12 + (body ls).length) (packB src dst tag (sumOf src dst tag ls) ls)) := by
  obtain ⟨ao, c, rfl⟩ := hv.form
  have hmk := run_make4
  have n0 : IntKind.i64.wrap (tag : Int) = (tag : Int) := by rw [IntKind.wrap_i64]; omega
  have hall := fun k hk => off_le ls k hk
  obtain ⟨n, hn⟩ : ∃ n, n = ls.length := ⟨_, rfl⟩
  have HN := Lib.hid hn
  rw [← hn] at hnum ⊢
  clear hn
  go_enter Tryz.func8, Tryz.ntmps8
  go_wp2
  (refine wp_region_calmK 10 55 Tryz.mixed rfl (by kernel_rfl) (fun T hT => ?_); simp only [List.take_succ_cons, List.take_zero, List.drop_succ_cons, List.drop_zero] at hT ⊢)
  (apply calm_val (D' := []) (hD := rfl); (· intro wZ1 hwZ1; simp only [fillAll]; go_simp; exact ⟨rfl, Grow.refl _⟩); simp only [Act.put, List.setIfInBounds_toArray, List.set_cons_succ, List.set_cons_zero])
  refine calm_new [] (fun u w => RdB w u (be2 src)) 16 rfl rfl (RdB.stable _) (fun w1 hw1 => ?_) ?_
  · simp only [fillAll]
    go_simp
    refine ⟨Grow.refl _, (number2 src w1).mono ?_⟩
    rintro e w2 ⟨a3, c3, rfl, ho2, hb2⟩
    exact ⟨_, rfl, ho2.rd, hb2⟩
  (apply calm_val (D' := []) (hD := rfl); (· intro wZ1 hwZ1; simp only [fillAll]; go_simp; exact ⟨rfl, Grow.refl _⟩); simp only [Act.put, List.setIfInBounds_toArray, List.set_cons_succ, List.set_cons_zero])
  refine calm_new [] (fun u w => RdB w u (be2 dst)) 18 rfl rfl (RdB.stable _) (fun w1 hw1 => ?_) ?_
  · simp only [fillAll]
    go_simp
    refine ⟨Grow.refl _, (number2 dst w1).mono ?_⟩
    rintro e w2 ⟨a3, c3, rfl, ho2, hb2⟩
    exact ⟨_, rfl, ho2.rd, hb2⟩
  iterate 2 (apply calm_val (D' := []) (hD := rfl); (· intro wZ1 hwZ1; simp only [fillAll]; go_simp; exact ⟨rfl, Grow.refl _⟩); simp only [Act.put, List.setIfInBounds_toArray, List.set_cons_succ, List.set_cons_zero])
  refine calm_new [] (fun u w => RdB w u (be4 tag)) 21 rfl rfl (RdB.stable _) (fun w1 hw1 => ?_) ?_
  · simp only [fillAll]
    go_simp
    refine ⟨Grow.refl _, (number4 tag w1).mono ?_⟩
    rintro e w2 ⟨a3, c3, rfl, ho2, hb2⟩
    exact ⟨_, rfl, ho2.rd, hb2⟩
  refine calm_new [] (fun u w => RdB w u z4) 22 rfl rfl (RdB.stable _) (fun w1 hw1 => ?_) ?_
  · simp only [fillAll]
    go_simp
    exact ⟨rd_make4 _ _ rfl, grow_alloc _ _⟩
  refine calm_new [(22, fun u w => RdB w u z4), (21, fun u w => RdB w u (be4 tag)), (18, fun u w => RdB w u (be2 dst)), (16, fun u w => RdB w u (be2 src))] (fun u w => RdBs w u [be2 src, be2 dst, be4 tag, z4]) 23 rfl rfl (RdBs.stable _) (fun w1 hw1 => ?_) ?_
  · simp only [fillAll]
    intro u23 (h23 : RdB w1 u23 z4) u19 (h19 : RdB w1 u19 (be4 tag)) u15 (h15 : RdB w1 u15 (be2 dst)) u11 (h11 : RdB w1 u11 (be2 src))
    obtain ⟨a23, c23, he23⟩ := h23.form
    obtain ⟨a19, c19, he19⟩ := h19.form
    obtain ⟨a15, c15, he15⟩ := h15.form
    obtain ⟨a11, c11, he11⟩ := h11.form
    rw [he23] at h23 ⊢
    rw [he19] at h19 ⊢
    rw [he15] at h15 ⊢
    rw [he11] at h11 ⊢
    clear he23 he19 he15 he11
    simp only [Act.put, List.setIfInBounds_toArray, List.set_cons_succ, List.set_cons_zero]
    go_simp
    exact ⟨rdbs_new w1 _ 4 rfl [_, _, _, _] _ 28 ⟨h11, h15, h19, h23, trivial⟩ rfl, grow_alloc _ _⟩
  refine calm_new [(23, fun u w => RdBs w u [be2 src, be2 dst, be4 tag, z4])] (fun u w' => OwnB w' w.heap.size u (hdB src dst tag 0)) 24 rfl rfl (OwnB.stable _ _) (fun w1 hw1 => ?_) ?_
  · simp only [fillAll]
    intro u hu
    simp only [Act.put, List.setIfInBounds_toArray, List.set_cons_succ, List.set_cons_zero]
    go_simp
    refine ⟨Grow.refl _, (joined_any _ [be2 src, be2 dst, be4 tag, z4] 12 w1 hu (by simp [be4, be2, z4]) (by simp) rfl).mono ?_⟩
    rintro e w2 ⟨a3, c3, rfl, ho2, hb2⟩
    exact ⟨_, rfl, ho2.mono (grow_drew hw1).size, hb2⟩
  intro w1 hw1
  simp only [fillAll]
  intro u24 h24 u23 h23 u22 h22 u21 h21 u18 h18 u16 h16
  clear h23 h22 h21 h18 h16
  obtain ⟨a24, c24, rfl⟩ := OwnB.form h24
  simp only [Act.put, List.setIfInBounds_toArray, List.set_cons_succ, List.set_cons_zero]
  refine hT _ _ ?_
  clear hT T hmk
  have hg1 := grow_drew hw1
  clear hw1
  go_wp2
  obtain ⟨vs, hrd, heach⟩ := hv
  rw [← HN.out] at hrd
  go_loopw [11, 27] (fun t i wr => ∃ (k : Nat) (va : Option Addr) (m vc : Nat), k ≤ n ∧ i = .int .i64 k ∧ t = .slice va m vc ∧ OwnB wr w.heap.size (.slice va m vc) (hdB src dst tag 0 ++ body (ls.take k)) ∧ Grow w wr) (fun _ i _ => n - (intOf i).toNat)
  case atStart => exact ⟨0, a24, _, c24, by omega, rfl, rfl, by simpa [body] using h24, hg1⟩
  case round =>
    clear h24 hg1
    obtain ⟨k, va, m, vc, hk, rfl, rfl, hown, hgr⟩ := hrel
    by_cases hlt : k < n
    · have hkl : k < ls.length := by rw [← HN.out]; exact hlt
      obtain ⟨u, hu, hru⟩ := heach k ls[k] (List.getElem?_eq_getElem hkl)
      have hob := hall k hkl
      have htk : (hdB src dst tag 0 ++ body (ls.take k)) ++ padded ls[k] = hdB src dst tag 0 ++ body (ls.take (k + 1)) := by
        rw [List.take_add_one, List.getElem?_eq_getElem hkl, List.append_assoc]
        unfold body
        rw [List.map_append, List.flatten_append]
        simp
      have hdl : (hdB src dst tag 0 ++ body (ls.take k)).length = off ls k := by simp [off, hdB_length]
      obtain ⟨l, hl⟩ : ∃ l, l = ls[k] := ⟨_, rfl⟩
      rw [← hl] at hru hob htk
      obtain ⟨d0, hd0⟩ : ∃ d0, d0 = hdB src dst tag 0 ++ body (ls.take k) := ⟨_, rfl⟩
      rw [← hd0] at hown htk hdl
      rw [← hdl] at hob
      have hpl : (padded l).length = l.length + padN l.length := by simp [padded]
      have HTK := Lib.hid htk
      clear htk hdl hd0 hl hkl
      obtain ⟨ua, uc, rfl⟩ := hru.form
      obtain ⟨g0, o0, c0, hv0, _, hcell0⟩ := Rd.at hrd (by omega)
      have kj := cell_grow hgr (hcell0 k _ hu)
      simp only [Value.slice.injEq] at hv0
      obtain ⟨rfl, hv1, rfl⟩ := hv0
      clear hv1 hcell0
      have hkI : (k : Int) < (n : Int) := by omega
      have hc17 := padded_any _ l wr (hru.grow hgr) (by omega)
      obtain ⟨N, hN⟩ : ∃ N, N = l.length := ⟨_, rfl⟩
      rw [← hN] at hc17 kj
      obtain ⟨M, hM⟩ : ∃ M, M = (padded l).length := ⟨_, rfl⟩
      rw [← hM] at hc17
      clear hN hM hpl
      go_wp2_with (first | (go_at_call 17; (with_reducible refine hc17.mono ?_); rintro e w2 ⟨a3, c3, rfl, ho3, hg3⟩) | (at_builtin; refine wpl_appB w d0 (padded l) rfl _ _ rfl _ rfl _ rfl (hown.grow hg3) ho3.rd ?_ (hgr.trans hg3) ?_))
      · omega
      intro v4 w4 ho4 hg4
      rw [HTK.out] at ho4
      obtain ⟨a4, c4, rfl⟩ := OwnB.form ho4
      clear hown ho3 hg3 hc17
      go_wp2
      go_roundw
      case rel => exact ⟨k + 1, a4, _, c4, by omega, by go_num, rfl, ho4, hg4⟩
      case measure => simp [intOf]; omega
    · obtain rfl : n = k := by omega
      rw [HN.out, List.take_length] at hown
      change OwnB wr w.heap.size (.slice va m vc) (packB src dst tag 0 ls) at hown
      have hpl := packB_length src dst tag 0 ls
      obtain ⟨g, rfl, rfl, hmc⟩ := own_some hown (by omega)
      have hc20 := specChecksum_any _ _ wr hown.rd (by omega) (by omega)
      rw [← sumOf_is] at hc20
      have hsl := sumOf_lt src dst tag ls
      have hpl2 := packB_length src dst tag (sumOf src dst tag ls) ls
      obtain ⟨sum, hsum⟩ : ∃ s, s = sumOf src dst tag ls := ⟨_, rfl⟩
      have hps : putL (packB src dst tag 0 ls) 8 (le4 sum) = packB src dst tag (sumOf src dst tag ls) ls := by rw [hsum]; exact pack_sum _ _ _ _ _
      rw [← hsum] at hc20 hsl
      clear hsum
      obtain ⟨t0, ht0⟩ : ∃ t0, t0 = packB src dst tag 0 ls := ⟨_, rfl⟩
      rw [← ht0] at hps hpl hown hc20 hmc
      simp only [← ht0]
      obtain ⟨L, hL⟩ : ∃ L, L = t0.length := ⟨_, rfl⟩
      rw [← hL] at hown hc20 hmc hpl ⊢
      have hL8 : 12 ≤ L := by omega
      have hcut := cutown g 8 (L - 8) L vc 8 rfl (by omega) (by omega) (by omega) hmc
      have HPS := Lib.hid hps
      have HPL := Lib.hid hpl
      have HPL2 := Lib.hid hpl2
      have HL := Lib.hid hL
      clear hps hpl hpl2 hL ht0
      have hbytes : [Value.int .u8 ((sum : Int) % 256), .int .u8 ((sum : Int) / 256 % 256), .int .u8 ((sum : Int) / 65536 % 256), .int .u8 ((sum : Int) / 16777216)] = bc (le4 sum) := by
        simp [le4, bc, Lib.byteCells]; omega
      have HB := Lib.hid hbytes
      clear hbytes
      have hgg := (own_lt hown).2
      go_wp2_with (first | (go_at_call 20; (with_reducible refine hc20.mono ?_); rintro e w5 ⟨rfl, hg5⟩) | (refine wpl_copyO rfl _ _ rfl w.heap.size g L vc 8 (L - 8) (vc - 8) t0 _ (le4 sum) rfl rfl ((hown.grow hg5).grow (grow_alloc _ _)) (RdB.lit1 (le4 sum) (heap_alloc_new w5 _) HB.out) ?_ ?_ ?_ ?_))
      · simp [le4]; omega
      · rw [← HL.out]; simp [le4]; omega
      · simp [le4]
      intro w6 ho6 hon6
      rw [HPS.out] at ho6
      go_wp2
      go_ret
      exact RetB.mk _ rfl ho6 (hon6.below ((hgr.trans hg5).trans (grow_alloc _ _)) hgg) (by rw [HPL2.out])
end Go.Proofs.YtdpmbchamefkmaaGreatDoor
