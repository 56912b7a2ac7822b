/-
The law FnPacketIs, walked.
-/
import Derived.Test.YtdpmbchamefkmaaGreatDoorLawP0
namespace Go.Proofs.YtdpmbchamefkmaaGreatDoor
open Go.RowKit

set_option maxRecDepth 100000 in
set_option maxHeartbeats 8000000 in
theorem packetIs_any (s d : Int) (tag : Nat) (ds : List Dat) (da : Option Addr) (dc : Nat) (tsn win : Nat) (gs : List (Int × Int)) (dups : List Nat) (ga ta : Option Addr) (gc tc : Nat) (ftsn : Nat) (ss : List (Int × Int)) (sa : Option Addr) (sc : Nat) (check : Bool) (w : World)
    (hr : RdD w (.slice da ds.length dc) ds) (hg : Rd w 2 (.slice ga gs.length gc) gs.length (intCells gs)) (hd : Rd w 1 (.slice ta dups.length tc) dups.length (dupCells dups)) (hs : Rd w 2 (.slice sa ss.length sc) ss.length (intCells ss))
    (htag : tag < 4294967296) (htsn : tsn < 4294967296) (hwin : win < 4294967296) (hdups : ∀ n ∈ dups, n < 4294967296) (hftsn : ftsn < 4294967296) :
    Calls Tryz.prog 5 #[.int .i64 s, .int .i64 d, .int .u32 tag, .slice da ds.length dc, .agg #[.int .u32 tsn, .int .u32 win, .slice ga gs.length gc, .slice ta dups.length tc], .agg #[.int .u32 ftsn, .slice sa ss.length sc], .bool check] w
      fun e w' => e = .returned (.bool true) ∧ Grow w w' := by
  have hc11 := fun w' (h : Grow w w') => zzFits1_any ds da dc w' (hr.grow h)
  have hc6 : ∀ w', Calls Tryz.prog 6 #[.agg #[.int .u32 tsn, .int .u32 win, .slice ga gs.length gc, .slice ta dups.length tc]] w' (Ans True w') := fun w' => (zzFits3_any tsn win ga ta gs.length gc dups.length tc w').mono fun e w'' h => ⟨_, h.1, fun _ => trivial, h.2⟩
  have hc12 := fun w' => zzFits4_any ftsn sa ss.length sc w'
  have hc13 := fun w' (h : Grow w w') => are_any ds da dc tsn win gs ga ta gc dups.length tc ftsn ss sa sc w' (hr.grow h) (hg.grow h) (hs.grow h)
  have hc15 := fun hok w1 h1 => texts_call ds da dc tsn win gs dups ga ta gc tc ftsn ss sa sc w hr hg hd hs htsn hwin hdups hftsn hok w1 h1
  have hfits := fun hok => textsB_fits ds tsn win gs dups ftsn ss hok (fun d hd => (hr.2 d hd).2) htsn hwin hdups hftsn
  have hshort := fun hok => textsB_short ds tsn win gs dups ftsn ss hok (hfits hok)
  have htl := textsB_length ds tsn win gs dups ftsn ss
  have hD42 : AreOk ds gs dups.length ss → ds.length + 2 ≤ 6 := fun h => by have := h.1; omega
  obtain ⟨ls, hls⟩ : ∃ ls, ls = textsB ds tsn win gs dups ftsn ss := ⟨_, rfl⟩
  obtain ⟨Ok, hOk⟩ : ∃ Ok : Prop, Ok = AreOk ds gs dups.length ss := ⟨_, rfl⟩
  rw [← hls] at hc15 hfits hshort htl
  rw [← hOk] at hc13 hc15 hfits hshort hD42
  obtain ⟨n, hn⟩ : ∃ n, n = ds.length := ⟨_, rfl⟩
  obtain ⟨G, hG⟩ : ∃ G, G = gs.length := ⟨_, rfl⟩
  obtain ⟨T, hT⟩ : ∃ T, T = dups.length := ⟨_, rfl⟩
  obtain ⟨S, hS⟩ : ∃ S, S = ss.length := ⟨_, rfl⟩
  rw [← hn] at hc11 hc13 hc15 htl hD42 ⊢
  obtain ⟨M, hM⟩ : ∃ M, M = n + 2 := ⟨_, rfl⟩
  rw [← hM] at hc15 htl hD42
  rw [← hG] at hc6 hc13 hc15 ⊢
  rw [← hT] at hc6 hc13 hc15 ⊢
  rw [← hS] at hc12 hc13 hc15 ⊢
  clear hls hOk hn hG hT hS hr hg hd hs hM
  have HTL := Lib.hid htl
  clear htl
  go_enter Tryz.func5, Tryz.ntmps5
  go_upto_region 1 with fail
  have hbx := Blk.new w 26 [.int .u32 tsn, .int .u32 win, .slice ga G gc, .slice ta T tc]
  have hby := Blk.new (w.alloc (.cells #[.int .u32 tsn, .int .u32 win, .slice ga G gc, .slice ta T tc] 26)) 37 [.int .u32 ftsn, .slice sa S sc]
  have hbx := hbx.alloc (.cells #[.int .u32 ftsn, .slice sa S sc] 37)
  obtain ⟨x, hx⟩ : ∃ x, x = w.heap.size := ⟨_, rfl⟩
  have hsz : ∀ o : Obj, (w.alloc o).heap.size = w.heap.size + 1 := fun o => by simp
  rw [hsz] at hby
  clear hsz
  rw [← hx] at hbx hby ⊢
  refine wp_at (fun w' => Blk w' x 26 [.int .u32 tsn, .int .u32 win, .slice ga G gc, .slice ta T tc] ∧ Blk w' (x + 1) 37 [.int .u32 ftsn, .slice sa S sc] ∧ Grow w w') ⟨hbx, hby, (grow_alloc _ _).trans (grow_alloc _ _)⟩ ?_
  clear hbx hby hx
  rintro w0 ⟨hbx, hby, hg0⟩
  have hc11 := hc11 w0 hg0
  go_upto_region 3 with (first | (go_at_call 11; (with_reducible refine hc11.mono ?_); rintro e w1 ⟨r11, rfl, _, hg11⟩; have x0 := (hbx.grow hg11).cell 0 _ rfl; have x1 := (hbx.grow hg11).cell 1 _ rfl; have x2 := (hbx.grow hg11).cell 2 _ rfl; have x3 := (hbx.grow hg11).cell 3 _ rfl; cases r11) | (go_at_call 6; (with_reducible refine (hc6 _).mono ?_); rintro e w2 ⟨r6, rfl, _, hg6⟩; have y0 := (hby.grow (hg11.trans hg6)).cell 0 _ rfl; have y1 := (hby.grow (hg11.trans hg6)).cell 1 _ rfl; cases r6) | (go_at_call 12; (with_reducible refine (hc12 _).mono ?_); rintro e w3 ⟨r12, rfl, _, hg12⟩; cases r12))
  · go_ret
    exact ⟨rfl, hg0.trans hg11⟩
  · go_ret
    exact ⟨rfl, (hg0.trans hg11).trans hg6⟩
  · go_ret
    exact ⟨rfl, ((hg0.trans hg11).trans hg6).trans hg12⟩
  have hg3 := ((hg0.trans hg11).trans hg6).trans hg12
  have hbx3 := hbx.grow ((hg11.trans hg6).trans hg12)
  have hby3 := hby.grow ((hg11.trans hg6).trans hg12)
  clear x0 x1 x2 x3 y0 y1 hbx hby hg11 hg6 hg12 hg0 hc11 hc6 hc12
  have x0 := hbx3.cell 0 _ rfl
  have x1 := hbx3.cell 1 _ rfl
  have x2 := hbx3.cell 2 _ rfl
  have x3 := hbx3.cell 3 _ rfl
  have y0 := hby3.cell 0 _ rfl
  have y1 := hby3.cell 1 _ rfl
  by_cases s1 : s < 1
  · go_wp2
    go_ret
    exact ⟨rfl, hg3⟩
  by_cases s2 : 65535 < s
  · go_wp2
    go_ret
    exact ⟨rfl, hg3⟩
  by_cases d1 : d < 1
  · go_wp2
    go_ret
    exact ⟨rfl, hg3⟩
  by_cases d2 : 65535 < d
  · go_wp2
    go_ret
    exact ⟨rfl, hg3⟩
  obtain ⟨src, rfl⟩ : ∃ n : Nat, s = n := ⟨s.toNat, by omega⟩
  obtain ⟨dst, rfl⟩ : ∃ n : Nat, d = n := ⟨d.toNat, by omega⟩
  have hsrc : src < 65536 := by omega
  have hdst : dst < 65536 := by omega
  have hc13 := hc13 w3 hg3
  go_upto_region 5 with (go_at_call 13; (with_reducible refine hc13.mono ?_); rintro e w4 ⟨r, rfl, himp, hg4⟩; cases r)
  · go_wp2
    go_ret
    exact ⟨rfl, hg3.trans hg4⟩
  have hok : Ok := by simpa using himp
  have hg4' := hg3.trans hg4
  have hbx4 := hbx3.grow hg4
  have hby4 := hby3.grow hg4
  have hc15 := hc15 hok w4 hg4'
  have hfit := hfits hok
  have hsh := hshort hok
  have hM6 := hD42 hok
  clear hc13 himp x0 x1 x2 x3 y0 y1 hfits hshort hD42 hok hbx3 hby3 hg3 hg4
  obtain ⟨L, hL⟩ : ∃ L, L = 12 + (body ls).length := ⟨_, rfl⟩
  obtain ⟨pk, hpk⟩ : ∃ p, p = packB src dst tag (sumOf src dst tag ls) ls := ⟨_, rfl⟩
  have hc8 : ∀ v w', RdBs w' v ls → Calls Tryz.prog 8 #[.int .i64 src, .int .i64 dst, .int .u32 tag, v, .bool true] w' (RetB w' L pk) := fun v w' h => by
    rw [hL, hpk]; exact specPacket_any src dst tag v ls w' h htag (by omega) (by rw [HTL.out]; omega)
  have hc10 : ∀ v w', RdB w' v pk → Calls Tryz.prog 10 #[v, .bool check] w' fun e w'' => ∃ oa oc, e = .returned (.tuple #[.int .i64 src, .int .i64 dst, .int .u32 tag, .slice oa M oc, .bool true]) ∧ RdBs w'' (.slice oa M oc) ls ∧ Grow w' w'' := fun v w' h => by
    rw [hpk] at h
    have := implPacket_any src dst tag (sumOf src dst tag ls) check ls v w' h hsrc hdst htag (sumOf_lt _ _ _ _) (sumOf_is _ _ _ _ _) hfit (by omega) (by rw [HTL.out]; omega)
    rw [HTL.out] at this
    exact this
  have hmost : ∀ l ∈ ls, l.length ≤ 9000 := fun l hl => (hfit l hl).known.most
  clear hL hpk hsh hfit
  have x0 := hbx4.cell 0 _ rfl
  have x1 := hbx4.cell 1 _ rfl
  have x2 := hbx4.cell 2 _ rfl
  have x3 := hbx4.cell 3 _ rfl
  have y0 := hby4.cell 0 _ rfl
  have y1 := hby4.cell 1 _ rfl
  go_upto_region 6 with (go_loud (go_at_call 15; (with_reducible refine hc15.mono ?_); rintro e w5 ⟨wa, wc, rfl, hwant, hg5⟩))
  clear x0 x1 x2 x3 y0 y1 hbx4 hby4 hc15
  go_upto_region 7 with (first | (go_loud (go_at_call 8; (with_reducible refine (hc8 _ _ hwant).mono ?_); rintro e w6 ⟨pa, pc, rfl, ho6, hg6⟩)) | (go_loud (go_at_call 10; (with_reducible refine (hc10 _ _ ho6.rd).mono ?_); rintro e w7 ⟨oa, oc, rfl, hgot, hg7⟩)))
  have hwant7 := hwant.grow (hg6.trans hg7)
  have hgw := ((hg4'.trans hg5).trans hg6).trans hg7
  clear hwant ho6 hg6 hg7 hg5 hg4' hc8 hc10
  go_wp2
  go_loopw [99] (fun i wr => ∃ k : Nat, k ≤ M ∧ i = .int .i64 k ∧ Grow w7 wr) (fun i _ => M - (intOf i).toNat)
  case atStart => exact ⟨0, by omega, rfl, Grow.refl _⟩
  case round =>
    obtain ⟨k, hk, rfl, hgr⟩ := hrel
    by_cases hlt : k < M
    · have hkl : k < ls.length := by rw [HTL.out]; exact hlt
      obtain ⟨gv, ghrd, gheach⟩ := hgot
      obtain ⟨wv, whrd, wheach⟩ := hwant7
      obtain ⟨gu, hgu, hgru⟩ := gheach k ls[k] (List.getElem?_eq_getElem hkl)
      obtain ⟨wu, hwu, hwru⟩ := wheach k ls[k] (List.getElem?_eq_getElem hkl)
      have hll := hmost ls[k] (List.getElem_mem hkl)
      obtain ⟨l, hl⟩ : ∃ l, l = ls[k] := ⟨_, rfl⟩
      rw [← hl] at hgru hwru hll
      clear hl
      rw [HTL.out] at ghrd whrd
      obtain ⟨g0, o0, c0, hv0, _, hcell0⟩ := Rd.at ghrd (by omega)
      have kg := fun w' (h : Grow wr.drew w') => cell_grow (hgr.trans (grow_drew h)) (hcell0 k _ hgu)
      simp only [Value.slice.injEq] at hv0
      obtain ⟨rfl, hv1, rfl⟩ := hv0
      clear hv1 hcell0 hgu ghrd gheach
      obtain ⟨g1, o1, c1, hv0, _, hcell0⟩ := Rd.at whrd (by omega)
      have kw := fun w' (h : Grow wr.drew w') => cell_grow (hgr.trans (grow_drew h)) (hcell0 k _ hwu)
      simp only [Value.slice.injEq] at hv0
      obtain ⟨rfl, hv1, rfl⟩ := hv0
      clear hv1 hcell0 hwu whrd wheach hmost
      obtain ⟨ga', gc', hge⟩ := hgru.form
      obtain ⟨wa', wc', hwe⟩ := hwru.form
      obtain ⟨N, hN⟩ : ∃ N, N = l.length := ⟨_, rfl⟩
      rw [← hN] at hge hwe hll
      subst hge hwe
      have HNN := Lib.hid hN
      clear hN
      have hkI : (k : Int) < (M : Int) := by omega
      have hk0 : (0 : Int) ≤ (k : Int) := by omega
      go_wp2
      (refine wp_region_calmK 11 115 Tryz.mixed rfl (by kernel_rfl) (fun T hT => ?_); simp only [List.take_succ_cons, List.take_zero, List.drop_succ_cons, List.drop_zero] at hT ⊢)
      iterate 4 (apply calm_val (D' := []) (hD := rfl); (· intro wZ1 hwZ1; simp only [fillAll]; go_simp; exact ⟨rfl, Grow.refl _⟩); simp only [Act.put, List.setIfInBounds_toArray, List.set_cons_succ, List.set_cons_zero])
      refine calm_new [] (fun u w => RdB w u (padded l)) 106 rfl rfl (RdB.stable _) (fun w1 hw1 => ?_) ?_
      · simp only [fillAll]
        go_simp
        refine ⟨Grow.refl _, (padded_any _ l w1 (hgru.grow (hgr.trans (grow_drew hw1))) (by rw [← HNN.out]; omega)).mono ?_⟩
        rintro e w2 ⟨a3, c3, rfl, ho2, hb2⟩
        exact ⟨_, rfl, ho2.rd, hb2⟩
      iterate 4 (apply calm_val (D' := []) (hD := rfl); (· intro wZ1 hwZ1; simp only [fillAll]; go_simp; exact ⟨rfl, Grow.refl _⟩); simp only [Act.put, List.setIfInBounds_toArray, List.set_cons_succ, List.set_cons_zero])
      refine calm_new [] (fun u w => RdB w u (padded l)) 111 rfl rfl (RdB.stable _) (fun w1 hw1 => ?_) ?_
      · simp only [fillAll]
        go_simp
        refine ⟨Grow.refl _, (padded_any _ l w1 (hwru.grow (hgr.trans (grow_drew hw1))) (by rw [← HNN.out]; omega)).mono ?_⟩
        rintro e w2 ⟨a3, c3, rfl, ho2, hb2⟩
        exact ⟨_, rfl, ho2.rd, hb2⟩
      refine calm_val [(111, fun u w => RdB w u (padded l)), (106, fun u w => RdB w u (padded l))] (.bool true) rfl (fun w1 hw1 => ?_) ?_
      · simp only [fillAll]
        intro u111 (h111 : RdB w1 u111 (padded l)) u106 (h106 : RdB w1 u106 (padded l))
        simp only [Act.put, List.setIfInBounds_toArray, List.set_cons_succ, List.set_cons_zero]
        go_simp
        refine ⟨Grow.refl _, (same_any (padded l) _ _ w1 h106 h111).mono ?_⟩
        rintro e w2 ⟨rfl, rfl⟩
        exact ⟨_, rfl, rfl, Grow.refl _⟩
      simp only [Act.put, List.setIfInBounds_toArray, List.set_cons_succ, List.set_cons_zero]
      intro w8 hw8
      simp only [fillAll]
      intro u111 h111 u106 h106
      clear h111 h106
      simp only [Act.put, List.setIfInBounds_toArray, List.set_cons_succ, List.set_cons_zero]
      refine hT _ _ ?_
      clear hT T kg kw
      have hg8 := hgr.trans (grow_drew hw8)
      clear hw8
      go_wp2
      go_roundw
      case rel => exact ⟨k + 1, by omega, by go_num, hg8⟩
      case measure => simp [intOf]; omega
    · obtain rfl : k = M := by omega
      go_wp2
      go_ret
      exact ⟨rfl, hgw.trans hgr⟩
end Go.Proofs.YtdpmbchamefkmaaGreatDoor
