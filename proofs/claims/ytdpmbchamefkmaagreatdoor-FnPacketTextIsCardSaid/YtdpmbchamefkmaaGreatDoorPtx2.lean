/-
A packet's text out of its chunks' texts, copied.
-/
import Derived.Test.YtdpmbchamefkmaaGreatDoorPtx
import Derived.Test.YtdpmbchamefkmaaGreatDoorZZ2
namespace Go.Proofs.YtdpmbchamefkmaaGreatDoor
open Go.RowKit

set_option maxRecDepth 100000 in
set_option maxHeartbeats 8000000 in
theorem implPacketText_any (src dst tag : Nat) (ls : List (List UInt8)) (v : Value) (w : World) (hv : RdBs w v ls) (hsrc : src < 65536) (hdst : dst < 65536) (htag : tag < 4294967296) (hfit : ∀ l ∈ ls, Fits l) (hlen : (body ls).length ≤ 1000000) (hnum : ls.length ≤ 100000) :
    Calls Tryz.prog 14 #[.int .i64 src, .int .i64 dst, .int .u32 tag, v, .bool true] w fun e w' => ∃ oa oc, e = .returned (.tuple #[.slice oa (12 + (body ls).length) oc, .bool true]) ∧ RdB w' (.slice oa (12 + (body ls).length) oc) (packB src dst tag (sumOf src dst tag ls) ls) ∧ Grow w w' := by
  obtain ⟨ao, c, rfl⟩ := hv.form
  obtain ⟨vs, hrd, heach⟩ := hv
  have hmost : ∀ l ∈ ls, l.length ≤ 9000 := fun l hl => (hfit l hl).known.most
  have hpl := packB_length src dst tag (sumOf src dst tag ls) ls
  obtain ⟨n, hn⟩ : ∃ n, n = ls.length := ⟨_, rfl⟩
  have hc27 : ∀ (xa : Option Addr) (xc : Nat) (w1 : World), RdBs w1 (.slice xa n xc) ls → Calls Tryz.prog 27 #[.int .i64 src, .int .i64 dst, .int .u32 tag, .slice xa n xc, .bool true] w1 fun e w' => ∃ oa oc, e = .returned (.tuple #[.slice oa (12 + (body ls).length) oc, .nilIface]) ∧ RdB w' (.slice oa (12 + (body ls).length) oc) (packB src dst tag (sumOf src dst tag ls) ls) ∧ Grow w1 w' :=
    fun xa xc w1 h => zzPacketText_any src dst tag ls _ w1 h hsrc hdst htag hfit hlen hnum
  obtain ⟨L, hL⟩ : ∃ L, L = 12 + (body ls).length := ⟨_, rfl⟩
  obtain ⟨text, hte⟩ : ∃ t, t = packB src dst tag (sumOf src dst tag ls) ls := ⟨_, rfl⟩
  rw [← hn] at hnum hrd ⊢
  rw [← hL] at hc27 hpl ⊢
  rw [← hte] at hc27 hpl ⊢
  have hLb : L ≤ 1000012 := by omega
  have HN := Lib.hid hn
  have HPL := Lib.hid hpl
  clear hn hL hte hpl hfit
  go_enter Tryz.func14, Tryz.ntmps14
  go_wp2
  go_loopw [12, 19] (fun out i wr => ∃ (j : Nat) (xa : Option Addr) (xc : Nat) (outs : List Value), j ≤ n ∧ i = .int .i64 j ∧ out = .slice xa j xc ∧ outs.length = j ∧ Outs2 w.heap.size wr (.slice xa j xc) outs (ls.take j) ∧ Grow w wr) (fun _ i _ => n - (intOf i).toNat)
  case atStart => exact ⟨0, none, 0, [], by omega, rfl, rfl, rfl, Outs2.nil _ _, Grow.refl _⟩
  case round =>
    obtain ⟨j, xa, xc, outs, hj, rfl, rfl, hol, houts, hgr⟩ := hrel
    by_cases hlt : j < n
    · have hjl : j < ls.length := by rw [← HN.out]; exact hlt
      obtain ⟨u, hu, hru⟩ := heach j ls[j] (List.getElem?_eq_getElem hjl)
      have hll := hmost ls[j] (List.getElem_mem hjl)
      have htk : ls.take (j + 1) = ls.take j ++ [ls[j]] := by rw [List.take_add_one, List.getElem?_eq_getElem hjl]; rfl
      obtain ⟨l, hl⟩ : ∃ l, l = ls[j] := ⟨_, rfl⟩
      rw [← hl] at hru hll htk
      have HTK := Lib.hid htk
      clear htk hl hjl
      obtain ⟨ua, uc, rfl⟩ := hru.form
      obtain ⟨g0, o0, c0, hv0, _, hcell0⟩ := Rd.at hrd (by omega)
      have kj := cell_grow hgr (hcell0 j _ hu)
      simp only [Value.slice.injEq] at hv0
      obtain ⟨rfl, hv1, rfl⟩ := hv0
      clear hv1 hcell0
      have hjI : (j : Int) < (n : Int) := by omega
      have hc23 := copied_any _ _ wr (hru.grow hgr) (by omega)
      obtain ⟨N, hN⟩ : ∃ N, N = l.length := ⟨_, rfl⟩
      rw [← hN] at hc23 kj
      clear hN
      have hownb : ∀ b, (Value.slice xa j xc).ownBlock = some b → w.heap.size ≤ b ∧ b < wr.heap.size := fun b hb => houts.own.lt b hb
      have hSr : w.heap.size ≤ wr.heap.size := hgr.size
      have hown0 := houts.own
      rw [hol] at hown0
      go_wp2_with (first | (go_at_call 23; (with_reducible refine hc23.mono ?_); rintro e wM ⟨a3, c3, rfl, ho3, hg3⟩) | (refine wpl_push rfl _ _ 31 rfl w.heap.size 28 (.slice none 0 0) 24 Tryz.underlying31 Tryz.info28 rfl _ j outs rfl (own_grow hown0 (hg3.trans (grow_alloc _ _))) ⟨wM.heap.size, 0, none⟩ 1 (.slice a3 N c3) rfl ((Blk.new wM 28 [.slice a3 N c3]).cell 0 _ rfl) rfl ?_ ?_ ?_ ?_))
      · omega
      · omega
      · exact Nat.le_trans hSr (Nat.le_trans hg3.size (grow_alloc wM _).size)
      intro a' c' w4 hown4 hgr4 hblk4
      have hgC : Grow wM (wM.alloc (.cells #[.slice a3 N c3] 28)) := grow_alloc _ _
      have hszC : (wM.alloc (.cells #[.slice a3 N c3] 28)).heap.size ≤ wM.heap.size + 1 := by simp
      generalize wM.alloc (.cells #[.slice a3 N c3] 28) = wC at hgr4 hblk4 hgC hszC
      have hblk5 : ∀ b, (Value.slice a' (j + 1) c').ownBlock = some b → (Value.slice xa j xc).ownBlock = some b ∨ wC.heap.size ≤ b := by
        intro b hb
        rcases hblk4 with h | h
        · exact .inl (h ▸ hb)
        · rw [h] at hb; cases hb; exact .inr hszC
      have houtC := houts.grow (hg3.trans hgC)
      have houts4 := houtC.push hgr4 l (by rw [hol]; exact hown4) hblk5 ((ho3.grow hgC).mono hSr) (fun g hg he => by have h1 := ho3.lt g hg; have h2 := hownb g he; omega)
      rw [← HTK.out] at houts4
      have hg4 : Grow w w4 := grown_below ((hgr.trans hg3).trans hgC) (Nat.le_trans hgr.size (Nat.le_trans hg3.size hgC.size)) houtC.own (Nat.le_refl _) (by exact hgr4)
      clear hgr4 hown4 hblk4 hblk5 houtC hgC houts hownb hszC hgr hg3 ho3
      go_wp2
      go_roundw
      case rel => exact ⟨j + 1, a', c', _, by omega, by go_num, rfl, by simp [hol], houts4, hg4⟩
      case measure => simp [intOf]; omega
    · obtain rfl : j = n := by omega
      rw [HN.out, List.take_length, ← HN.out] at houts
      have hc27 := hc27 xa xc wr houts.rds
      go_upto_region 8 with (go_loud (go_at_call 27; (with_reducible refine hc27.mono ?_); rintro e w2 ⟨oa, oc, rfl, ho2, hg2⟩))
      have hg2' := hgr.trans hg2
      clear hc27 houts hgr hg2
      go_wp2
      (refine wp_region_calmK 5 42 Tryz.mixed rfl (by kernel_rfl) (fun T hT => ?_); simp only [List.take_succ_cons, List.take_zero, List.drop_succ_cons, List.drop_zero] at hT ⊢)
      (apply calm_val (D' := []) (hD := rfl); (· intro wZ1 hwZ1; simp only [fillAll]; go_simp; exact ⟨rfl, Grow.refl _⟩); simp only [Act.put, List.setIfInBounds_toArray, List.set_cons_succ, List.set_cons_zero])
      refine calm_new [] (fun u w' => RdB w' u text) 39 rfl rfl (RdB.stable _) (fun w1 hw1 => ?_) ?_
      · simp only [fillAll]
        go_simp
        refine ⟨Grow.refl _, (copied_any _ text w1 (ho2.grow (grow_drew hw1)) (by rw [HPL.out]; omega)).mono ?_⟩
        rintro e w3 ⟨a3, c3, rfl, ho3, hg3⟩
        exact ⟨_, rfl, ho3.rd, hg3⟩
      iterate 2 (apply calm_val (D' := []) (hD := rfl); (· intro wZ1 hwZ1; simp only [fillAll]; go_simp; exact ⟨rfl, Grow.refl _⟩); simp only [Act.put, List.setIfInBounds_toArray, List.set_cons_succ, List.set_cons_zero])
      refine calm_new [(39, fun u w' => RdB w' u text)] (fun u w' => RdB w' u text) 10 rfl rfl (RdB.stable _) (fun w1 hw1 => ?_) ?_
      · simp only [fillAll]
        intro u hu
        simp only [Act.put, List.setIfInBounds_toArray, List.set_cons_succ, List.set_cons_zero]
        go_simp
        exact Grow.refl _
      intro w5 hw5
      simp only [fillAll]
      intro u10 h10 u39 h39
      clear h39
      obtain ⟨a10, c10, rfl⟩ := RdB.form h10
      rw [HPL.out] at h10 ⊢
      simp only [Act.put, List.setIfInBounds_toArray, List.set_cons_succ, List.set_cons_zero]
      refine hT _ _ ?_
      clear hT T
      have hg5 := hg2'.trans (grow_drew hw5)
      clear hw5
      go_wp2
      go_returns
      exact ⟨a10, c10, rfl, h10, hg5⟩
end Go.Proofs.YtdpmbchamefkmaaGreatDoor
