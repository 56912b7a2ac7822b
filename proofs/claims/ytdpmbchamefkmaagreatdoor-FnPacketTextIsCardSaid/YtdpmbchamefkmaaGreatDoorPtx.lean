/-
A packet's text out of its chunks' texts.
-/
import Derived.Test.YtdpmbchamefkmaaGreatDoorMar
namespace Go.Proofs.YtdpmbchamefkmaaGreatDoor
open Go.RowKit

set_option maxRecDepth 100000 in
set_option maxHeartbeats 8000000 in
theorem zzPacketText_any (src dst tag : Nat) (ls : List (List UInt8)) (v : Value) (w : World) (hv : RdBs w v ls) (hsrc : src < 65536) (hdst : dst < 65536) (htag : tag < 4294967296) (hfit : ∀ l ∈ ls, Fits l) (hlen : (body ls).length ≤ 1000000) (hnum : ls.length ≤ 100000) :
    Calls Tryz.prog 27 #[.int .i64 src, .int .i64 dst, .int .u32 tag, v, .bool true] w fun e w' => ∃ oa oc, e = .returned (.tuple #[.slice oa (12 + (body ls).length) oc, .nilIface]) ∧ RdB w' (.slice oa (12 + (body ls).length) oc) (packB src dst tag (sumOf src dst tag ls) ls) ∧ Grow w w' := by
  obtain ⟨ao, c, rfl⟩ := hv.form
  obtain ⟨vs, hrd, heach⟩ := hv
  have u1 : IntKind.u16.wrap (src : Int) = (src : Int) := by rw [IntKind.wrap_u16]; omega
  have u2 : IntKind.u16.wrap (dst : Int) = (dst : Int) := by rw [IntKind.wrap_u16]; omega
  obtain ⟨n, hn⟩ : ∃ n, n = ls.length := ⟨_, rfl⟩
  have hc33 : ∀ (pb base : Nat) (va : Option Addr) (vc : Nat) (rs : List (Nat × Nat)) (us : List Value) (w1 : World), Grow w w1 → w.heap.size ≤ pb → pb < base → Blk w1 pb 70 [.int .u16 src, .int .u16 dst, .int .u32 tag, .slice va n vc] → Row w.heap.size pb base w1 (.slice va n vc) rs us ls →
      Calls Tryz.prog 33 #[.pointer (some ⟨pb, 0, none⟩), .bool true] w1 fun e w' => ∃ oa oc, e = .returned (.tuple #[.slice oa (12 + (body ls).length) oc, .nilIface]) ∧ OwnB w' w1.heap.size (.slice oa (12 + (body ls).length) oc) (packB src dst tag (sumOf src dst tag ls) ls) ∧ Grow w w' := fun pb base va vc rs us w1 h1 h2 h3 h4 h5 => by
    rw [hn] at h4 h5
    exact packMarshal_any w.heap.size pb base src dst tag va vc rs us ls w w1 h1 (Nat.le_refl _) h2 h3 h4 h5 hsrc hdst htag hlen hnum
  obtain ⟨L, hL⟩ : ∃ L, L = 12 + (body ls).length := ⟨_, rfl⟩
  rw [← hn] at hnum hrd ⊢
  rw [← hL] at hc33 ⊢
  have HN := Lib.hid hn
  clear hn hL
  go_enter Tryz.func27, Tryz.ntmps27
  go_upto_region 2 with fail
  have hbn := Blk.new w 70 [.int .u16 src, .int .u16 dst, .int .u32 tag, .slice none 0 0]
  obtain ⟨pb, hpe⟩ : ∃ b, b = w.heap.size := ⟨_, rfl⟩
  rw [← hpe] at hbn ⊢
  have hple : w.heap.size ≤ pb := by omega
  clear hpe
  refine wp_at (fun w' => Blk w' pb 70 [.int .u16 src, .int .u16 dst, .int .u32 tag, .slice none 0 0] ∧ Grow w w') ⟨hbn, grow_alloc _ _⟩ ?_
  clear hbn
  rintro wA ⟨hbA, hgA⟩
  have hpbw : pb < wA.heap.size := hbA.lt
  go_wp2
  go_loopw [26] (fun i wr => ∃ (k : Nat) (va : Option Addr) (vc : Nat) (rs : List (Nat × Nat)) (us : List Value), k ≤ n ∧ i = .int .i64 k ∧ Blk wr pb 70 [.int .u16 src, .int .u16 dst, .int .u32 tag, .slice va k vc] ∧ Row w.heap.size pb wA.heap.size wr (.slice va k vc) rs us (ls.take k) ∧ Only pb wA wr) (fun i _ => n - (intOf i).toNat)
  case atStart => exact ⟨0, none, 0, [], [], by omega, rfl, hbA, Row.nil _ _ _ _, Only.refl _ _⟩
  case round =>
    clear hbA
    obtain ⟨k, va, vc, rs, us, hk, rfl, hbr, hrow, hor⟩ := hrel
    have hgr := hor.below hgA hple
    by_cases hlt : k < n
    · have hkl : k < ls.length := by rw [← HN.out]; exact hlt
      have hul : us.length = k := by rw [← hrow.chks.len2, List.length_take, Nat.min_eq_left (by omega)]
      obtain ⟨u, hu, hru⟩ := heach k ls[k] (List.getElem?_eq_getElem hkl)
      have hft := hfit ls[k] (List.getElem_mem hkl)
      have htk : ls.take (k + 1) = ls.take k ++ [ls[k]] := by rw [List.take_add_one, List.getElem?_eq_getElem hkl]; rfl
      obtain ⟨l, hl⟩ : ∃ l, l = ls[k] := ⟨_, rfl⟩
      rw [← hl] at hru hft htk
      have hpl := hft.four
      have hmost := hft.known.most
      have HTK := Lib.hid htk
      clear htk hl hkl
      obtain ⟨t, r, hlt1, hkind⟩ := hft.kind
      obtain ⟨g, o, c', hv1, _, hcell⟩ := hru.at (by omega)
      have k3 : wr.cell? ⟨g, o, none⟩ = some (.int .u8 (t.toNat : Nat)) := cell_grow hgr (hcell 0 t (by simp [hlt1]))
      obtain ⟨ty, hty⟩ : ∃ ty : Int, ty = (t.toNat : Nat) := ⟨_, rfl⟩
      rw [← hty] at k3 hkind
      clear hcell hlt1 hty hft
      subst hv1
      obtain ⟨g0, o0, c0, hv0, _, hcell0⟩ := Rd.at hrd (by omega)
      have kj := cell_grow hgr (hcell0 k _ hu)
      simp only [Value.slice.injEq] at hv0
      obtain ⟨rfl, hv1, rfl⟩ := hv0
      clear hv1 hcell0 hu
      have hraw : RdB w (.slice (some ⟨g, o, none⟩) l.length c') (l ++ []) := by rw [List.append_nil]; exact hru
      obtain ⟨N, hN⟩ : ∃ N, N = l.length := ⟨_, rfl⟩
      rw [← hN] at hraw kj
      have hN4 : ¬ (N : Int) < 4 := by omega
      have hN0 : (0 : Int) < (N : Int) := by omega
      have hN0' : 0 < N := by omega
      have hkI : (k : Int) < (n : Int) := by omega
      clear hN hru
      go_upto_block 2 with fail
      go_cut [15] from 36 to 36 (fun c w' => ∃ b, wr.heap.size ≤ b ∧ Unread w b w' c l ∧ Grow wr w')
      case first =>
        rcases hkind with ⟨rfl, hk⟩ | ⟨rfl, hk⟩ | ⟨rfl, hk⟩
        · go_wp2
          go_meet
          exact ⟨_, Nat.le_refl _, sack_unread _ l hk w _ (Blk.new _ _ _), grow_alloc _ _⟩
        · go_wp2
          go_meet
          exact ⟨_, Nat.le_refl _, data_unread _ l hk w _ (Blk.new _ _ _), grow_alloc _ _⟩
        · go_wp2
          go_meet
          exact ⟨_, Nat.le_refl _, fwd_unread _ l hk w _ (Blk.new _ _ _), grow_alloc _ _⟩
      case rest =>
      rename World => wB0
      obtain ⟨b, hble, ⟨T, f, fv, T2, cs, rfl, hbB0, hinvU, hinvL, hread⟩, hgB0⟩ := hcut
      clear k3 hkind kj hinvL
      have hgrs := hgr.size
      have hpbr : pb < wr.heap.size := hbr.lt
      have hc := hread (.slice (some ⟨g, o, none⟩) N c') [] wB0 hraw (by simp) (by simp) (hgr.trans hgB0) (by omega) hbB0
      clear hread
      have hown0 := hrow.own
      rw [hul] at hown0
      have hkb : k ≤ 100000 := by omega
      go_wp2_with (first | (refine wpl_invoke1 rfl _ _ _ _ rfl (.iface T (.pointer (some ⟨b, 0, none⟩))) (.slice (some ⟨g, o, none⟩) N c') rfl rfl f _ (hinvU _ _) _ hc ?_; rintro e wB ⟨rfl, hoB, T3, cs3, hbB, hM, hLn⟩; refine ⟨_, rfl, ?_⟩; have hgB : Grow wr wB := hoB.below hgB0 (by omega); have k3 := (hbr.grow hgB).cell 3 _ rfl) | (refine wpl_push rfl _ _ 68 rfl wA.heap.size 73 .nilIface 16 Tryz.underlying68 Tryz.info73 rfl _ k us rfl (own_grow hown0 (hgB.trans (grow_alloc _ _))) ⟨wB.heap.size, 0, none⟩ 1 (.iface T (.pointer (some ⟨b, 0, none⟩))) rfl ((Blk.new wB 73 [.iface T (.pointer (some ⟨b, 0, none⟩))]).cell 0 _ rfl) rfl ?_ ?_ ?_ ?_))
      · omega
      · omega
      · exact Nat.le_trans hor.size (Nat.le_trans hgB.size (Nat.le_succ _))
      intro a' c2 w4 hown4 hgr4 hblk4
      have hgC : Grow wB (wB.alloc (.cells #[.iface T (.pointer (some ⟨b, 0, none⟩))] 73)) := grow_alloc _ _
      have hszC : (wB.alloc (.cells #[.iface T (.pointer (some ⟨b, 0, none⟩))] 73)).heap.size ≤ wB.heap.size + 1 := by simp
      generalize wB.alloc (.cells #[.iface T (.pointer (some ⟨b, 0, none⟩))] 73) = wC at hgr4 hblk4 hgC hszC
      clear k3
      have hob : ∀ g', (Value.slice va k vc).ownBlock = some g' → wA.heap.size ≤ g' ∧ g' < wr.heap.size := fun g' h => hown0.lt g' h
      have hm : Marsh w.heap.size b wB.heap.size wC (.iface T (.pointer (some ⟨b, 0, none⟩))) l := hM wB.heap.size wC (.of_grow hgC) (Nat.le_refl _) hgC.size
      have hblk5 : ∀ g', (Value.slice a' (k + 1) c2).ownBlock = some g' → (Value.slice va k vc).ownBlock = some g' ∨ wC.heap.size ≤ g' := by
        intro g' hg'
        rcases hblk4 with h | h
        · exact .inl (h ▸ hg')
        · rw [h] at hg'; cases hg'; exact .inr hszC
      have hrow4 := hrow.push (hgB.trans hgC) hgr4 (by rw [hul]; exact hown4) hblk5 hm hble hpbr hple hpbw
      rw [← HTK.out] at hrow4
      have hp4 : Blk w4 pb 70 [.int .u16 src, .int .u16 dst, .int .u32 tag, .slice va k vc] := blk_grown (hbr.grow (hgB.trans hgC)) hgr4 (by intro he; have := hob pb he; omega)
      have ho4 : Only pb wA w4 := (hor.grow (hgB.trans hgC)).grown hgr4 fun g' h => (hob g' h).1
      clear hm hgr4 hown4 hblk4 hgC hgB hbB hoB hbB0 hgB0 hown0 hbr hrow hor hob hc hM hinvU hLn
      have f := hp4.free 3
      have k3 := hp4.cell 3 _ rfl
      go_wp2
      go_roundw
      case rel => exact ⟨k + 1, a', c2, rs ++ [(b, wB.heap.size)], us ++ [.iface T (.pointer (some ⟨b, 0, none⟩))], by omega, by go_num, hp4.set 3 _, hrow4.only (Only.setCell _ _ _ _) hple hpbw, ho4.trans (Only.setCell _ _ _ _)⟩
      case measure => simp [intOf]; omega
    · obtain rfl : k = n := by omega
      rw [HN.out, List.take_length, ← HN.out] at hrow
      have hc := hc33 pb wA.heap.size va vc rs us wr hgr hple hpbw hbr hrow
      go_wp2_with (go_loud (go_at_call 33; (with_reducible refine hc.mono ?_); rintro e w2 ⟨oa, oc, rfl, ho2, hg2⟩))
      go_ret2
      exact ⟨oa, oc, rfl, ho2.rd, hg2⟩
end Go.Proofs.YtdpmbchamefkmaaGreatDoor
