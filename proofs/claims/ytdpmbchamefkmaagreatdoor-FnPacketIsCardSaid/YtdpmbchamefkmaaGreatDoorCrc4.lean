/-
The program's CRC-32, eight bytes at a time.
-/
import Derived.Test.YtdpmbchamefkmaaGreatDoorCrc3
namespace Go.Proofs.YtdpmbchamefkmaaGreatDoor
open Go.RowKit

/-- 'v[lo:]' as a step of the walk. -/
theorem wpl_cutl {w : World} {ops : Array Oper} {rest : List Oper} {o : Oper} {a : Act} {Q : Exit → Act → World → Prop} (hg : o.guard = none) (x L : Operand) (ho : o.op = .slice 28 x (some L) none none)
    (v : Value) (hx : a.eval x = v) (kl : IntKind) (Lz : Int) (hL : a.eval L = .int kl Lz) (l : List UInt8) (lo n : Nat) (hLz : Lz = lo) (hr : RdB w v l) (h1 : lo + n = l.length)
    (h : ∀ a' c', RdB w (.slice a' n c') (l.drop lo) → wpList Tryz.prog ops Q rest (a.put o.dst (.slice a' n c')) w) : wpList Tryz.prog ops Q (o :: rest) a w := by
  obtain ⟨a', c', hrun, hrd⟩ := cut_l hr lo n Lz hLz h1
  refine wpl_val hg (.slice a' n c') w ?_ (h a' c' (hrd w hr))
  unfold execOp
  rw [ho]
  simp [hx, hL, hrun, Instr.sliceAt, run_underlying Tryz.underlying28, Result.andThen]

theorem cells8 {w : World} {v : Value} {l : List UInt8} (hv : RdB w v l) (h8 : 8 ≤ l.length) :
    ∃ g o c b0 b1 b2 b3 b4 b5 b6 b7 r, v = .slice (some ⟨g, o, none⟩) l.length c ∧ l = b0 :: b1 :: b2 :: b3 :: b4 :: b5 :: b6 :: b7 :: r ∧
      w.cell? ⟨g, o + 4, none⟩ = some (.int .u8 (b4 : UInt8).toNat) ∧ w.cell? ⟨g, o + 5, none⟩ = some (.int .u8 (b5 : UInt8).toNat) ∧ w.cell? ⟨g, o + 6, none⟩ = some (.int .u8 (b6 : UInt8).toNat) ∧ w.cell? ⟨g, o + 7, none⟩ = some (.int .u8 (b7 : UInt8).toNat) := by
  obtain ⟨g, o, c, hv1, hc, hcell⟩ := hv.at (by omega)
  match l, h8, hcell with
  | b0 :: b1 :: b2 :: b3 :: b4 :: b5 :: b6 :: b7 :: r, _, hcell =>
    exact ⟨g, o, c, b0, b1, b2, b3, b4, b5, b6, b7, r, hv1, rfl, hcell 4 b4 rfl, hcell 5 b5 rfl, hcell 6 b6 rfl, hcell 7 b7 rfl⟩

theorem tabsL_row (j x : Nat) (hj : j < 8) (hx : x < 256) : tabsL[j * 256 + x]? = some (.int .u32 (Crc.tabs j x : Nat)) := by
  rw [tabsL_get _ (by omega)]
  unfold tabsv
  rw [show (j * 256 + x) / 256 = j by omega, show (j * 256 + x) % 256 = x by omega]

set_option maxRecDepth 100000 in
set_option maxHeartbeats 2000000 in
theorem slicing_any (c b : Nat) (v : Value) (l : List UInt8) (w : World) (hc : c < 4294967296) (hb : Blk w b 150 tabsL) (hv : RdB w v l) (hn : l.length ≤ 140737488355328) :
    Calls Tryz.prog 44 #[.int .u32 c, .pointer (some ⟨b, 0, none⟩), v] w fun e w' => e = .returned (.int .u32 (Crc.update c (nats l) : Nat)) ∧ Grow w w' := by
  obtain ⟨ao, c0, rfl⟩ := hv.form
  by_cases h16 : 16 ≤ l.length
  · have hin := inv_bits c hc
    go_enter Tryz.func44, Tryz.ntmps44
    go_wp2
    clear hin
    go_loopw [0, 2] (fun s p wr => ∃ (k m : Nat) (a' : Option Addr) (c' : Nat), k + m = l.length ∧ 1 ≤ m ∧ p = .slice a' m c' ∧ RdB wr p (l.drop k) ∧ s = .int .u32 (Crc.upds (Crc.inv c) (nats (l.take k)) : Nat) ∧ Grow w wr) (fun _ p _ => match p with | .slice _ n _ => n | _ => 0)
    case atStart => exact ⟨0, l.length, ao, c0, by omega, by omega, rfl, by simpa using hv, rfl, Grow.refl _⟩
    case round =>
      obtain ⟨k, m, a', c', hkm, hm1, rfl, hr, rfl, hg⟩ := hrel
      by_cases h8 : 8 < m
      · have hdl : (l.drop k).length = m := by rw [List.length_drop]; omega
        have hs : Crc.upds (Crc.inv c) (nats (l.take k)) < 4294967296 := Crc.upds_lt _ _ (Crc.inv_lt _) (nats_lt _)
        obtain ⟨g, o, c1, b0, b1, b2, b3, b4, b5, b6, b7, r, hv1, hl, c4, c5, c6, c7⟩ := cells8 hr (by omega)
        simp only [Value.slice.injEq] at hv1
        obtain ⟨rfl, hmm, rfl⟩ := hv1
        clear hmm
        have hL4 : ∃ L4, L4 = le32of (l.drop k) := ⟨_, rfl⟩
        obtain ⟨L4, hL4⟩ := hL4
        have hL4e : L4 = Crc.le4 b0.toNat b1.toNat b2.toNat b3.toNat := by rw [hL4, hl]; rfl
        have hb0 := b0.toNat_lt
        have hb1 := b1.toNat_lt
        have hb2 := b2.toNat_lt
        have hb3 := b3.toNat_lt
        have hb4 := b4.toNat_lt
        have hb5 := b5.toNat_lt
        have hb6 := b6.toNat_lt
        have hb7 := b7.toNat_lt
        have hL4lt : L4 < 4294967296 := by rw [hL4e]; unfold Crc.le4; omega
        have hcall := crcU32_any _ _ wr hr (by omega)
        rw [← hL4] at hcall
        have hstep : Crc.upds (Crc.inv c) (nats (l.take (k + 8))) = Crc.upds (Crc.upds (Crc.inv c) (nats (l.take k))) [b0.toNat, b1.toNat, b2.toNat, b3.toNat, b4.toNat, b5.toNat, b6.toNat, b7.toNat] := by
          rw [← Crc.upds_append]
          congr 1
          rw [List.take_add, hl]
          simp [nats]
        generalize Crc.upds (Crc.inv c) (nats (l.take k)) = s at *
        obtain ⟨X, hX⟩ : ∃ X, X = s ^^^ L4 := ⟨_, rfl⟩
        have hXlt : X < 4294967296 := by rw [hX]; exact Nat.xor_lt_two_pow (n := 32) (by simpa using hs) (by simpa using hL4lt)
        rw [Crc.upds_eight s b0.toNat b1.toNat b2.toNat b3.toNat b4.toNat b5.toNat b6.toNat b7.toNat (by omega) (by omega) (by omega) X (by rw [hX, hL4e])] at hstep
        have hx0 := hxor s L4 hs hL4lt
        rw [← hX] at hx0
        clear hL4 hL4e hX
        have HD := Lib.hid hdl
        clear hdl hl
        obtain ⟨T0, hT0⟩ : ∃ T, T = Crc.tabs 0 b7.toNat := ⟨_, rfl⟩
        have hTl0 : T0 < 4294967296 := by rw [hT0]; exact Crc.tabs_lt _ _ (by omega)
        have hr0 := tabsL_row 0 b7.toNat (by omega) (by omega)
        rw [← hT0] at hstep hr0
        obtain ⟨T1, hT1⟩ : ∃ T, T = Crc.tabs 1 b6.toNat := ⟨_, rfl⟩
        have hTl1 : T1 < 4294967296 := by rw [hT1]; exact Crc.tabs_lt _ _ (by omega)
        have hr1 := tabsL_row 1 b6.toNat (by omega) (by omega)
        rw [← hT1] at hstep hr1
        obtain ⟨T2, hT2⟩ : ∃ T, T = Crc.tabs 2 b5.toNat := ⟨_, rfl⟩
        have hTl2 : T2 < 4294967296 := by rw [hT2]; exact Crc.tabs_lt _ _ (by omega)
        have hr2 := tabsL_row 2 b5.toNat (by omega) (by omega)
        rw [← hT2] at hstep hr2
        obtain ⟨T3, hT3⟩ : ∃ T, T = Crc.tabs 3 b4.toNat := ⟨_, rfl⟩
        have hTl3 : T3 < 4294967296 := by rw [hT3]; exact Crc.tabs_lt _ _ (by omega)
        have hr3 := tabsL_row 3 b4.toNat (by omega) (by omega)
        rw [← hT3] at hstep hr3
        obtain ⟨T4, hT4⟩ : ∃ T, T = Crc.tabs 4 (X / 16777216) := ⟨_, rfl⟩
        have hTl4 : T4 < 4294967296 := by rw [hT4]; exact Crc.tabs_lt _ _ (by omega)
        have hr4 := tabsL_row 4 (X / 16777216) (by omega) (by omega)
        rw [← hT4] at hstep hr4
        obtain ⟨T5, hT5⟩ : ∃ T, T = Crc.tabs 5 (X / 65536 % 256) := ⟨_, rfl⟩
        have hTl5 : T5 < 4294967296 := by rw [hT5]; exact Crc.tabs_lt _ _ (by omega)
        have hr5 := tabsL_row 5 (X / 65536 % 256) (by omega) (by omega)
        rw [← hT5] at hstep hr5
        obtain ⟨T6, hT6⟩ : ∃ T, T = Crc.tabs 6 (X / 256 % 256) := ⟨_, rfl⟩
        have hTl6 : T6 < 4294967296 := by rw [hT6]; exact Crc.tabs_lt _ _ (by omega)
        have hr6 := tabsL_row 6 (X / 256 % 256) (by omega) (by omega)
        rw [← hT6] at hstep hr6
        obtain ⟨T7, hT7⟩ : ∃ T, T = Crc.tabs 7 (X % 256) := ⟨_, rfl⟩
        have hTl7 : T7 < 4294967296 := by rw [hT7]; exact Crc.tabs_lt _ _ (by omega)
        have hr7 := tabsL_row 7 (X % 256) (by omega) (by omega)
        rw [← hT7] at hstep hr7
        have HS := Lib.hid hstep
        clear hstep
        clear hT0
        clear hT1
        clear hT2
        clear hT3
        clear hT4
        clear hT5
        clear hT6
        clear hT7
        have hA1 : T0 < 4294967296 := hTl0
        have hx1 := hxor (T0) T1 hA1 hTl1
        have hA2 : T0 ^^^ T1 < 4294967296 := Nat.xor_lt_two_pow (n := 32) (by simpa using hA1) (by simpa using hTl1)
        have hx2 := hxor (T0 ^^^ T1) T2 hA2 hTl2
        have hA3 : T0 ^^^ T1 ^^^ T2 < 4294967296 := Nat.xor_lt_two_pow (n := 32) (by simpa using hA2) (by simpa using hTl2)
        have hx3 := hxor (T0 ^^^ T1 ^^^ T2) T3 hA3 hTl3
        have hA4 : T0 ^^^ T1 ^^^ T2 ^^^ T3 < 4294967296 := Nat.xor_lt_two_pow (n := 32) (by simpa using hA3) (by simpa using hTl3)
        have hx4 := hxor (T0 ^^^ T1 ^^^ T2 ^^^ T3) T4 hA4 hTl4
        have hA5 : T0 ^^^ T1 ^^^ T2 ^^^ T3 ^^^ T4 < 4294967296 := Nat.xor_lt_two_pow (n := 32) (by simpa using hA4) (by simpa using hTl4)
        have hx5 := hxor (T0 ^^^ T1 ^^^ T2 ^^^ T3 ^^^ T4) T5 hA5 hTl5
        have hA6 : T0 ^^^ T1 ^^^ T2 ^^^ T3 ^^^ T4 ^^^ T5 < 4294967296 := Nat.xor_lt_two_pow (n := 32) (by simpa using hA5) (by simpa using hTl5)
        have hx6 := hxor (T0 ^^^ T1 ^^^ T2 ^^^ T3 ^^^ T4 ^^^ T5) T6 hA6 hTl6
        have hA7 : T0 ^^^ T1 ^^^ T2 ^^^ T3 ^^^ T4 ^^^ T5 ^^^ T6 < 4294967296 := Nat.xor_lt_two_pow (n := 32) (by simpa using hA6) (by simpa using hTl6)
        have hx7 := hxor (T0 ^^^ T1 ^^^ T2 ^^^ T3 ^^^ T4 ^^^ T5 ^^^ T6) T7 hA7 hTl7
        go_wp2_with (go_at_call 46; (with_reducible refine hcall.mono ?_); rintro e w2 ⟨rfl, hg2⟩)
        clear hx0
        have hbw := (hb.grow hg).grow hg2
        have e4 : ∀ w1, Grow w2.drew w1 → w1.cell? ⟨g, o + 4, none⟩ = some (.int .u8 b4.toNat) := fun w1 hw => cell_grow (hg2.trans (grow_drew hw)) c4
        have e5 : ∀ w1, Grow w2.drew w1 → w1.cell? ⟨g, o + 5, none⟩ = some (.int .u8 b5.toNat) := fun w1 hw => cell_grow (hg2.trans (grow_drew hw)) c5
        have e6 : ∀ w1, Grow w2.drew w1 → w1.cell? ⟨g, o + 6, none⟩ = some (.int .u8 b6.toNat) := fun w1 hw => cell_grow (hg2.trans (grow_drew hw)) c6
        have e7 : ∀ w1, Grow w2.drew w1 → w1.cell? ⟨g, o + 7, none⟩ = some (.int .u8 b7.toNat) := fun w1 hw => cell_grow (hg2.trans (grow_drew hw)) c7
        have f0 : ∀ w1, Grow w2.drew w1 → w1.cell? ⟨b, b7.toNat, none⟩ = some (.int .u32 T0) := fun w1 hw => (hbw.grow (grow_drew hw)).cell _ _ (by simpa using hr0)
        have f1 : ∀ w1, Grow w2.drew w1 → w1.cell? ⟨b, 256 + b6.toNat, none⟩ = some (.int .u32 T1) := fun w1 hw => (hbw.grow (grow_drew hw)).cell _ _ (by simpa using hr1)
        have f2 : ∀ w1, Grow w2.drew w1 → w1.cell? ⟨b, 512 + b5.toNat, none⟩ = some (.int .u32 T2) := fun w1 hw => (hbw.grow (grow_drew hw)).cell _ _ (by simpa using hr2)
        have f3 : ∀ w1, Grow w2.drew w1 → w1.cell? ⟨b, 768 + b4.toNat, none⟩ = some (.int .u32 T3) := fun w1 hw => (hbw.grow (grow_drew hw)).cell _ _ (by simpa using hr3)
        have f4 : ∀ w1, Grow w2.drew w1 → w1.cell? ⟨b, 1024 + ((X : Int) / 16777216).toNat, none⟩ = some (.int .u32 T4) := fun w1 hw => (hbw.grow (grow_drew hw)).cell _ _ (by rw [show ((X : Int) / 16777216).toNat = (X / 16777216) by omega]; simpa using hr4)
        have f5 : ∀ w1, Grow w2.drew w1 → w1.cell? ⟨b, 1280 + ((X : Int) / 65536 % 256).toNat, none⟩ = some (.int .u32 T5) := fun w1 hw => (hbw.grow (grow_drew hw)).cell _ _ (by rw [show ((X : Int) / 65536 % 256).toNat = (X / 65536 % 256) by omega]; simpa using hr5)
        have f6 : ∀ w1, Grow w2.drew w1 → w1.cell? ⟨b, 1536 + ((X : Int) / 256 % 256).toNat, none⟩ = some (.int .u32 T6) := fun w1 hw => (hbw.grow (grow_drew hw)).cell _ _ (by rw [show ((X : Int) / 256 % 256).toNat = (X / 256 % 256) by omega]; simpa using hr6)
        have f7 : ∀ w1, Grow w2.drew w1 → w1.cell? ⟨b, 1792 + ((X : Int) % 256).toNat, none⟩ = some (.int .u32 T7) := fun w1 hw => (hbw.grow (grow_drew hw)).cell _ _ (by rw [show ((X : Int) % 256).toNat = (X % 256) by omega]; simpa using hr7)
        have m4 : (4 : Int) < (m : Int) := by omega
        have m5 : (5 : Int) < (m : Int) := by omega
        have m6 : (6 : Int) < (m : Int) := by omega
        have m7 : (7 : Int) < (m : Int) := by omega
        have i0 : (b7.toNat : Int) < 256 := by omega
        have i1 : (b6.toNat : Int) < 256 := by omega
        have i2 : (b5.toNat : Int) < 256 := by omega
        have i3 : (b4.toNat : Int) < 256 := by omega
        have i4 : (X : Int) / 16777216 < 256 := by omega
        have i4' : 0 ≤ (X : Int) / 16777216 := by omega
        have a5 : bits .and .u32 ((X : Int) / 65536) 255 = ((X / 65536 % 256 : Nat) : Int) := hand255 (X / 65536) (by omega)
        have a6 : bits .and .u32 ((X : Int) / 256) 255 = ((X / 256 % 256 : Nat) : Int) := hand255 (X / 256) (by omega)
        have a7 : bits .and .u32 (X : Int) 255 = ((X % 256 : Nat) : Int) := hand255 X hXlt
        have j5 : (X : Int) / 65536 % 256 < 256 := by omega
        have k5 : 0 ≤ (X : Int) / 65536 % 256 := by omega
        have j6 : (X : Int) / 256 % 256 < 256 := by omega
        have k6 : 0 ≤ (X : Int) / 256 % 256 := by omega
        have j7 : (X : Int) % 256 < 256 := by omega
        have k7 : 0 ≤ (X : Int) % 256 := by omega
        refine wp_region_calmK 69 102 Tryz.mixed rfl (by kernel_rfl) (fun T hT => ?_)
        simp only [List.take_succ_cons, List.take_zero, List.drop_succ_cons, List.drop_zero] at hT ⊢
        iterate 69
          apply calm_val (D' := []) (hD := rfl)
          · intro w1 hw1
            simp only [fillAll]
            go_simp
            exact ⟨rfl, Grow.refl _⟩
          simp only [Act.put, List.setIfInBounds_toArray, List.set_cons_succ, List.set_cons_zero]
        intro w3 hw3
        simp only [fillAll]
        refine hT _ _ ?_
        clear hT T
        have hg3 := (hg.trans hg2).trans (grow_drew hw3)
        have hr3 := hr.grow (hg2.trans (grow_drew hw3))
        clear e4 e5 e6 e7 f0 f1 f2 f3 f4 f5 f6 f7 hw3
        go_wp2_with (refine wpl_cutl rfl _ _ rfl _ rfl _ _ rfl _ 8 (m - 8) rfl hr3 ?_ ?_)
        · rw [HD.out]; omega
        intro a4 c4 hr4
        go_wp2
        go_roundw
        case rel => exact ⟨k + 8, m - 8, a4, c4, by omega, by omega, rfl, hr4, by rw [HS.out], hg3⟩
        case measure => simp only []; omega
      · have hs : Crc.upds (Crc.inv c) (nats (l.take k)) < 4294967296 := Crc.upds_lt _ _ (Crc.inv_lt _) (nats_lt _)
        have hdl : (l.drop k).length = m := by rw [List.length_drop]; omega
        have he : Crc.update (Crc.inv (Crc.upds (Crc.inv c) (nats (l.take k)))) (nats (l.drop k)) = Crc.update c (nats l) := by
          have := Crc.update_append c (nats (l.take k)) (nats (l.drop k)) (nats_lt _)
          unfold Crc.update at this ⊢
          rw [this, nats, nats, ← List.map_append, List.take_append_drop]
        have hcall := simple_any (Crc.inv (Crc.upds (Crc.inv c) (nats (l.take k)))) b _ _ wr (Crc.inv_lt _) (hb.grow hg) hr (by omega)
        rw [he] at hcall
        clear he
        generalize Crc.upds (Crc.inv c) (nats (l.take k)) = s at *
        have hin := inv_bits s hs
        have hz : ((m : Int) == 0) = false := beq_eq_false_iff_ne.2 (by omega)
        have HD := Lib.hid hdl
        clear hdl hkm
        go_wp2_with (go_at_call 47; (with_reducible refine hcall.mono ?_); rintro e w2 ⟨rfl, hg2⟩)
        go_ret
        exact ⟨rfl, hg.trans hg2⟩
  · by_cases h0 : l.length = 0
    · have hl : l = [] := List.eq_nil_of_length_eq_zero h0
      subst hl
      have he : Crc.update c (nats []) = c := Crc.inv_inv c hc
      have HE := Lib.hid he
      clear he h0
      go_enter Tryz.func44, Tryz.ntmps44
      go_wp2
      go_ret
      exact ⟨by rw [HE.out]; rfl, Grow.refl _⟩
    · have hz : ((l.length : Int) == 0) = false := beq_eq_false_iff_ne.2 (by omega)
      have h16' : ¬ (16 : Int) ≤ (l.length : Int) := by omega
      go_enter Tryz.func44, Tryz.ntmps44
      go_wp2_with (go_at_call 47; (with_reducible refine (simple_any c b _ l w hc hb hv hn).mono ?_); rintro e w2 ⟨rfl, hg2⟩)
      go_ret
      exact ⟨rfl, hg2⟩
end Go.Proofs.YtdpmbchamefkmaaGreatDoor
