/-
The law FnPacketTextIs, walked.
-/
import Derived.Test.YtdpmbchamefkmaaGreatDoorLawP0
import Derived.Test.YtdpmbchamefkmaaGreatDoorPtx2
namespace Go.Proofs.YtdpmbchamefkmaaGreatDoor
open Go.RowKit

set_option maxRecDepth 100000 in
set_option maxHeartbeats 8000000 in
theorem packetTextIs_any (s d : Int) (tag : Nat) (ds : List Dat) (da : Option Addr) (dc : Nat) (tsn win : Nat) (gs : List (Int × Int)) (dups : List Nat) (ga ta : Option Addr) (gc tc : Nat) (ftsn : Nat) (ss : List (Int × Int)) (sa : Option Addr) (sc : Nat) (w : World)
    (hr : RdD w (.slice da ds.length dc) ds) (hg : Rd w 2 (.slice ga gs.length gc) gs.length (intCells gs)) (hd : Rd w 1 (.slice ta dups.length tc) dups.length (dupCells dups)) (hs : Rd w 2 (.slice sa ss.length sc) ss.length (intCells ss))
    (htag : tag < 4294967296) (htsn : tsn < 4294967296) (hwin : win < 4294967296) (hdups : ∀ n ∈ dups, n < 4294967296) (hftsn : ftsn < 4294967296) :
    Calls Tryz.prog 4 #[.int .i64 s, .int .i64 d, .int .u32 tag, .slice da ds.length dc, .agg #[.int .u32 tsn, .int .u32 win, .slice ga gs.length gc, .slice ta dups.length tc], .agg #[.int .u32 ftsn, .slice sa ss.length sc]] w
      fun e w' => e = .returned (.bool true) ∧ Grow w w' := by
  have hc11 := fun w' (h : Grow w w') => zzFits1_any ds da dc w' (hr.grow h)
  have hc6 : ∀ w', Calls Tryz.prog 6 #[.agg #[.int .u32 tsn, .int .u32 win, .slice ga gs.length gc, .slice ta dups.length tc]] w' (Ans True w') := fun w' => (zzFits3_any tsn win ga ta gs.length gc dups.length tc w').mono fun e w'' h => ⟨_, h.1, fun _ => trivial, h.2⟩
  have hc12 := fun w' => zzFits4_any ftsn sa ss.length sc w'
  have hc13 := fun w' (h : Grow w w') => are_any ds da dc tsn win gs ga ta gc dups.length tc ftsn ss sa sc w' (hr.grow h) (hg.grow h) (hs.grow h)
  have hc15 := fun hok w1 h1 => texts_call ds da dc tsn win gs dups ga ta gc tc ftsn ss sa sc w hr hg hd hs htsn hwin hdups hftsn hok w1 h1
  have hfits := fun hok => textsB_fits ds tsn win gs dups ftsn ss hok (fun d hd => (hr.2 d hd).2) htsn hwin hdups hftsn
  have hshort := fun hok => textsB_short ds tsn win gs dups ftsn ss hok (hfits hok)
  have htl := textsB_length ds tsn win gs dups ftsn ss
  have hD42 : AreOk ds gs dups.length ss → ds.length + 2 ≤ 6 := fun h => by have := h.1; omega
  obtain ⟨ls, hls⟩ : ∃ ls, ls = textsB ds tsn win gs dups ftsn ss := ⟨_, rfl⟩
  obtain ⟨Ok, hOk⟩ : ∃ Ok : Prop, Ok = AreOk ds gs dups.length ss := ⟨_, rfl⟩
  rw [← hls] at hc15 hfits hshort htl
  rw [← hOk] at hc13 hc15 hfits hshort hD42
  obtain ⟨n, hn⟩ : ∃ n, n = ds.length := ⟨_, rfl⟩
  obtain ⟨G, hG⟩ : ∃ G, G = gs.length := ⟨_, rfl⟩
  obtain ⟨T, hT⟩ : ∃ T, T = dups.length := ⟨_, rfl⟩
  obtain ⟨S, hS⟩ : ∃ S, S = ss.length := ⟨_, rfl⟩
  rw [← hn] at hc11 hc13 hc15 htl hD42 ⊢
  obtain ⟨M, hM⟩ : ∃ M, M = n + 2 := ⟨_, rfl⟩
  rw [← hM] at hc15 htl hD42
  rw [← hG] at hc6 hc13 hc15 ⊢
  rw [← hT] at hc6 hc13 hc15 ⊢
  rw [← hS] at hc12 hc13 hc15 ⊢
  clear hls hOk hn hG hT hS hr hg hd hs hM
  have HTL := Lib.hid htl
  clear htl
  go_enter Tryz.func4, Tryz.ntmps4
  go_upto_region 1 with fail
  have hbx := Blk.new w 26 [.int .u32 tsn, .int .u32 win, .slice ga G gc, .slice ta T tc]
  have hby := Blk.new (w.alloc (.cells #[.int .u32 tsn, .int .u32 win, .slice ga G gc, .slice ta T tc] 26)) 37 [.int .u32 ftsn, .slice sa S sc]
  have hbx := hbx.alloc (.cells #[.int .u32 ftsn, .slice sa S sc] 37)
  obtain ⟨x, hx⟩ : ∃ x, x = w.heap.size := ⟨_, rfl⟩
  have hsz : ∀ o : Obj, (w.alloc o).heap.size = w.heap.size + 1 := fun o => by simp
  rw [hsz] at hby
  clear hsz
  rw [← hx] at hbx hby ⊢
  refine wp_at (fun w' => Blk w' x 26 [.int .u32 tsn, .int .u32 win, .slice ga G gc, .slice ta T tc] ∧ Blk w' (x + 1) 37 [.int .u32 ftsn, .slice sa S sc] ∧ Grow w w') ⟨hbx, hby, (grow_alloc _ _).trans (grow_alloc _ _)⟩ ?_
  clear hbx hby hx
  rintro w0 ⟨hbx, hby, hg0⟩
  have hc11 := hc11 w0 hg0
  go_upto_region 3 with (first | (go_at_call 11; (with_reducible refine hc11.mono ?_); rintro e w1 ⟨r11, rfl, _, hg11⟩; have x0 := (hbx.grow hg11).cell 0 _ rfl; have x1 := (hbx.grow hg11).cell 1 _ rfl; have x2 := (hbx.grow hg11).cell 2 _ rfl; have x3 := (hbx.grow hg11).cell 3 _ rfl; cases r11) | (go_at_call 6; (with_reducible refine (hc6 _).mono ?_); rintro e w2 ⟨r6, rfl, _, hg6⟩; have y0 := (hby.grow (hg11.trans hg6)).cell 0 _ rfl; have y1 := (hby.grow (hg11.trans hg6)).cell 1 _ rfl; cases r6) | (go_at_call 12; (with_reducible refine (hc12 _).mono ?_); rintro e w3 ⟨r12, rfl, _, hg12⟩; cases r12))
  · go_ret
    exact ⟨rfl, hg0.trans hg11⟩
  · go_ret
    exact ⟨rfl, (hg0.trans hg11).trans hg6⟩
  · go_ret
    exact ⟨rfl, ((hg0.trans hg11).trans hg6).trans hg12⟩
  have hg3 := ((hg0.trans hg11).trans hg6).trans hg12
  have hbx3 := hbx.grow ((hg11.trans hg6).trans hg12)
  have hby3 := hby.grow ((hg11.trans hg6).trans hg12)
  clear x0 x1 x2 x3 y0 y1 hbx hby hg11 hg6 hg12 hg0 hc11 hc6 hc12
  have x0 := hbx3.cell 0 _ rfl
  have x1 := hbx3.cell 1 _ rfl
  have x2 := hbx3.cell 2 _ rfl
  have x3 := hbx3.cell 3 _ rfl
  have y0 := hby3.cell 0 _ rfl
  have y1 := hby3.cell 1 _ rfl
  by_cases s1 : s < 1
  · go_wp2
    go_ret
    exact ⟨rfl, hg3⟩
  by_cases s2 : 65535 < s
  · go_wp2
    go_ret
    exact ⟨rfl, hg3⟩
  by_cases d1 : d < 1
  · go_wp2
    go_ret
    exact ⟨rfl, hg3⟩
  by_cases d2 : 65535 < d
  · go_wp2
    go_ret
    exact ⟨rfl, hg3⟩
  obtain ⟨src, rfl⟩ : ∃ n : Nat, s = n := ⟨s.toNat, by omega⟩
  obtain ⟨dst, rfl⟩ : ∃ n : Nat, d = n := ⟨d.toNat, by omega⟩
  have hsrc : src < 65536 := by omega
  have hdst : dst < 65536 := by omega
  have hc13 := hc13 w3 hg3
  go_upto_region 5 with (go_at_call 13; (with_reducible refine hc13.mono ?_); rintro e w4 ⟨r, rfl, himp, hg4⟩; cases r)
  · go_wp2
    go_ret
    exact ⟨rfl, hg3.trans hg4⟩
  have hok : Ok := by simpa using himp
  have hg4' := hg3.trans hg4
  have hbx4 := hbx3.grow hg4
  have hby4 := hby3.grow hg4
  have hc15 := hc15 hok
  have hfit := hfits hok
  have hsh := hshort hok
  have hM6 := hD42 hok
  clear hc13 himp x0 x1 x2 x3 y0 y1 hfits hshort hD42 hok hbx3 hby3 hg3 hg4
  obtain ⟨L, hL⟩ : ∃ L, L = 12 + (body ls).length := ⟨_, rfl⟩
  obtain ⟨pk, hpk⟩ : ∃ p, p = packB src dst tag (sumOf src dst tag ls) ls := ⟨_, rfl⟩
  have hc8 : ∀ v w', RdBs w' v ls → Calls Tryz.prog 8 #[.int .i64 src, .int .i64 dst, .int .u32 tag, v, .bool true] w' (RetB w' L pk) := fun v w' h => by
    rw [hL, hpk]; exact specPacket_any src dst tag v ls w' h htag (by omega) (by rw [HTL.out]; omega)
  have hc14 : ∀ v w', RdBs w' v ls → Calls Tryz.prog 14 #[.int .i64 src, .int .i64 dst, .int .u32 tag, v, .bool true] w' fun e w'' => ∃ oa oc, e = .returned (.tuple #[.slice oa L oc, .bool true]) ∧ RdB w'' (.slice oa L oc) pk ∧ Grow w' w'' := fun v w' h => by
    rw [hL, hpk]; exact implPacketText_any src dst tag ls v w' h hsrc hdst htag hfit (by omega) (by rw [HTL.out]; omega)
  clear hL hpk hsh hfit
  have hc15a := hc15 w4 hg4'
  have x0 := hbx4.cell 0 _ rfl
  have x1 := hbx4.cell 1 _ rfl
  have x2 := hbx4.cell 2 _ rfl
  have x3 := hbx4.cell 3 _ rfl
  have y0 := hby4.cell 0 _ rfl
  have y1 := hby4.cell 1 _ rfl
  go_upto_region 6 with (first | (go_loud (go_at_call 15; (with_reducible refine hc15a.mono ?_); rintro e w5 ⟨wa, wc, rfl, hwant, hg5⟩)) | (go_loud (go_at_call 14; (with_reducible refine (hc14 _ _ hwant).mono ?_); rintro e w6 ⟨pa, pc, rfl, hgot, hg6⟩)))
  have hg6' := (hg4'.trans hg5).trans hg6
  have hbx6 := hbx4.grow (hg5.trans hg6)
  have hby6 := hby4.grow (hg5.trans hg6)
  clear x0 x1 x2 x3 y0 y1 hbx4 hby4 hc15a hwant hg5 hg6 hg4' hc14
  have hc15b := hc15 w6 hg6'
  have x0 := hbx6.cell 0 _ rfl
  have x1 := hbx6.cell 1 _ rfl
  have x2 := hbx6.cell 2 _ rfl
  have x3 := hbx6.cell 3 _ rfl
  have y0 := hby6.cell 0 _ rfl
  have y1 := hby6.cell 1 _ rfl
  go_wp2_with (first | (go_loud (go_at_call 15; (with_reducible refine hc15b.mono ?_); rintro e w7 ⟨wa2, wc2, rfl, hwant, hg7⟩)) | (go_loud (go_at_call 8; (with_reducible refine (hc8 _ _ hwant).mono ?_); rintro e w8 ⟨pa2, pc2, rfl, ho8, hg8⟩)) | (go_loud (go_at_call 16; (with_reducible refine (same_any pk _ _ _ (hgot.grow (hg7.trans hg8)) ho8.rd).mono ?_); rintro e w9 ⟨rfl, rfl⟩)))
  go_ret
  exact ⟨rfl, (hg6'.trans hg7).trans hg8⟩
end Go.Proofs.YtdpmbchamefkmaaGreatDoor
