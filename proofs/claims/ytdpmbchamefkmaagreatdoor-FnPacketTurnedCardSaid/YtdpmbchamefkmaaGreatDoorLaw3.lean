/-
The law FnPacketTurned, walked.
-/
import Derived.Test.YtdpmbchamefkmaaGreatDoorSpec9
import Derived.Test.YtdpmbchamefkmaaGreatDoorBad
namespace Go.Proofs.YtdpmbchamefkmaaGreatDoor
open Go.RowKit

def toN (gs : List (Int × Int)) : List (Nat × Nat) := gs.map fun p => (p.1.toNat, p.2.toNat)
theorem toN_ok (gs : List (Int × Int)) (D : Nat) (h : SackOk gs D) : natI (toN gs) = gs ∧ (toN gs).length = gs.length ∧ ∀ p ∈ toN gs, p.1 < 65536 ∧ p.2 < 65536 := by
  obtain ⟨_, _, h3⟩ := h
  refine ⟨?_, by simp [toN], ?_⟩
  · unfold natI toN
    rw [List.map_map]
    conv => rhs; rw [← List.map_id gs]
    refine List.map_congr_left fun p hp => ?_
    have := h3 p hp
    simp only [Function.comp, id]
    ext
    · simp only []; omega
    · simp only []; omega
  · intro p hp
    obtain ⟨q, hq, rfl⟩ := List.mem_map.1 hp
    have := h3 q hq
    simp only []; omega

theorem le32_set (l : List UInt8) (j : Nat) (y : UInt8) (hj : j < 4) (hl : 12 ≤ l.length) (hy : l[8 + j]? ≠ some y) : le32of ((l.set (8 + j) y).drop 8) ≠ le32of (l.drop 8) := by
  match l, hl, hy with
  | b0 :: b1 :: b2 :: b3 :: b4 :: b5 :: b6 :: b7 :: b8 :: b9 :: b10 :: b11 :: r, _, hy =>
    have h8 := b8.toNat_lt
    have h9 := b9.toNat_lt
    have h10 := b10.toNat_lt
    have h11 := b11.toNat_lt
    have h12 := y.toNat_lt
    have hne : ∀ z : UInt8, z ≠ y → z.toNat ≠ y.toNat := fun z hz he => hz (UInt8.toNat_inj.1 he)
    match j, hj, hy with
    | 0, _, hy => have := hne b8 (by simpa using hy); simp [le32of]; omega
    | 1, _, hy => have := hne b9 (by simpa using hy); simp [le32of]; omega
    | 2, _, hy => have := hne b10 (by simpa using hy); simp [le32of]; omega
    | 3, _, hy => have := hne b11 (by simpa using hy); simp [le32of]; omega

theorem bare_set (l : List UInt8) (j : Nat) (y : UInt8) (hj : j < 4) : bareB (l.set (8 + j) y) = bareB l := by
  unfold bareB
  rw [List.take_set_of_le (by omega), List.drop_set_of_lt (by omega)]

theorem le32_pack (src dst tag s : Nat) (ls : List (List UInt8)) (hs : s < 4294967296) : le32of ((packB src dst tag s ls).drop 8) = s := by
  rw [show (packB src dst tag s ls).drop 8 = le4 s ++ body ls by simp [packB, hdB, be2, be4]]
  exact le32of_le4 s hs _

theorem flip_any (o : UInt8) (r : Nat) (hr : r < 8) : ∃ y : UInt8, Value.int .u8 (bits .xor .u8 (o.toNat : Int) (2 ^ min r 8 % 256)) = .int .u8 y.toNat ∧ y ≠ o := by
  have h2 : ∀ r < 8, (2 : Int) ^ min r 8 % 256 = ((2 ^ r : Nat) : Int) := by decide
  have hp : ∀ r < 8, 2 ^ r < 256 ∧ 0 < 2 ^ r := by decide
  have ho := o.toNat_lt
  obtain ⟨p1, p2⟩ := hp r hr
  have hx : o.toNat ^^^ 2 ^ r < 256 := Nat.xor_lt_two_pow (n := 8) (by simpa using ho) (by simpa using p1)
  refine ⟨UInt8.ofNat (o.toNat ^^^ 2 ^ r), ?_, fun he => ?_⟩
  · rw [h2 r hr, hxor8 _ _ (by omega) p1]
    congr 1
    rw [UInt8.toNat_ofNat']
    omega
  · have h3 := congrArg UInt8.toNat he
    rw [UInt8.toNat_ofNat', Nat.mod_eq_of_lt (by omega)] at h3
    have h4 := congrArg (o.toNat ^^^ ·) h3
    simp only [← Nat.xor_assoc, Nat.xor_self, Nat.zero_xor] at h4
    omega

set_option maxRecDepth 100000 in
set_option maxHeartbeats 8000000 in
theorem turned_any (s d b : Int) (tag tsn win : Nat) (gs : List (Int × Int)) (dups : List Nat) (ga da : Option Addr) (gc dc : Nat) (w : World) (hr : Rd w 2 (.slice ga gs.length gc) gs.length (intCells gs)) (hd : Rd w 1 (.slice da dups.length dc) dups.length (dupCells dups))
    (htag : tag < 4294967296) (htsn : tsn < 4294967296) (hwin : win < 4294967296) (hdups : ∀ n ∈ dups, n < 4294967296) (gT : TypeId) (gx : Value) (hglob : w.cell? ⟨4, 0, none⟩ = some (.iface gT gx)) :
    Calls Tryz.prog 3 #[.int .i64 s, .int .i64 d, .int .u32 tag, .agg #[.int .u32 tsn, .int .u32 win, .slice ga gs.length gc, .slice da dups.length dc], .int .i64 b] w fun e w' => e = .returned (.bool true) ∧ Grow w w' := by
  obtain ⟨G, hGe⟩ : ∃ G, G = gs.length := ⟨_, rfl⟩
  obtain ⟨D, hDe⟩ : ∃ D, D = dups.length := ⟨_, rfl⟩
  have hc6 := fun w' => zzFits3_any tsn win ga da G gc D dc w'
  have hc7 := fun w' (h : Grow w w') => isSack_any tsn win gs ga da gc dups.length dc w' (hr.grow h)
  obtain ⟨text, hte⟩ : ∃ t, t = chunkB 3 0 (sackB tsn win (toN gs) dups) := ⟨_, rfl⟩
  obtain ⟨N, hN⟩ : ∃ N, N = text.length := ⟨_, rfl⟩
  have hc9 : SackOk gs dups.length → ∀ w', Grow w w' → Calls Tryz.prog 9 #[.agg #[.int .u32 tsn, .int .u32 win, .slice ga gs.length gc, .slice da dups.length dc]] w' (RetB w' N text) := fun hok w' h => by
    obtain ⟨h1, h2, h3⟩ := toN_ok gs _ hok
    have hr' := hr.grow h
    have := specSack_any tsn win (toN gs) dups ga da gc dc w' (by rw [h1, h2]; exact hr') (hd.grow h) (by rw [h2]; exact hok.1) hok.2.1 htsn hwin hdups
    rw [h2] at this
    rw [hN, hte, chunkB_length]
    exact this
  have hfit : SackOk gs dups.length → Fits text ∧ N ≤ 9000 := fun hok => by
    obtain ⟨h1, h2, h3⟩ := toN_ok gs _ hok
    exact ⟨⟨tsn, win, toN gs, dups, hte, htsn, hwin, h3, hdups, by rw [h2]; exact hok.1, hok.2.1⟩, by rw [hN, hte, chunkB_length, sackB_length, h2]; have := hok.1; have := hok.2.1; omega⟩
  rw [← hGe, ← hDe] at hc9 hc7 ⊢
  rw [← hDe] at hfit
  have HN := Lib.hid hN
  clear hN hte hGe hDe hr hd
  go_enter Tryz.func3, Tryz.ntmps3
  by_cases hfits : G ≤ 2147483647 ∧ D ≤ 2147483647
  · have hf : decide (G ≤ 2147483647 ∧ D ≤ 2147483647) = true := decide_eq_true hfits
    rw [hf] at hc6
    clear hf hfits
    go_upto_region 3 with (go_at_call 6; (with_reducible refine (hc6 _).mono ?_); rintro e w1 ⟨rfl, hg1⟩)
    have hbx := (Blk.new w 26 [.int .u32 tsn, .int .u32 win, .slice ga G gc, .slice da D dc]).grow hg1
    have hg1 := (grow_alloc w (.cells #[.int .u32 tsn, .int .u32 win, .slice ga G gc, .slice da D dc] 26)).trans hg1
    obtain ⟨x, hx⟩ : ∃ x, x = w.heap.size := ⟨_, rfl⟩
    rw [← hx] at hbx ⊢
    clear hx
    have x0 := hbx.cell 0 _ rfl
    have x1 := hbx.cell 1 _ rfl
    have x2 := hbx.cell 2 _ rfl
    have x3 := hbx.cell 3 _ rfl
    by_cases s1 : s < 1
    · go_wp2
      go_ret
      exact ⟨rfl, hg1⟩
    by_cases s2 : 65535 < s
    · go_wp2
      go_ret
      exact ⟨rfl, hg1⟩
    by_cases d1 : d < 1
    · go_wp2
      go_ret
      exact ⟨rfl, hg1⟩
    by_cases d2 : 65535 < d
    · go_wp2
      go_ret
      exact ⟨rfl, hg1⟩
    obtain ⟨src, rfl⟩ : ∃ n : Nat, s = n := ⟨s.toNat, by omega⟩
    obtain ⟨dst, rfl⟩ : ∃ n : Nat, d = n := ⟨d.toNat, by omega⟩
    have hc7 := hc7 w1 hg1
    by_cases b1 : b < 0
    · go_wp2_with (go_at_call 7; (with_reducible refine hc7.mono ?_); rintro e w2 ⟨r, rfl, himp, hg2⟩; cases r)
      all_goals
        go_ret
        exact ⟨rfl, hg1.trans hg2⟩
    by_cases b2 : 31 < b
    · go_wp2_with (go_at_call 7; (with_reducible refine hc7.mono ?_); rintro e w2 ⟨r, rfl, himp, hg2⟩; cases r)
      all_goals
        go_ret
        exact ⟨rfl, hg1.trans hg2⟩
    obtain ⟨bit, rfl⟩ : ∃ n : Nat, b = n := ⟨b.toNat, by omega⟩
    have hbit : bit < 32 := by omega
    go_upto_region 5 with (go_at_call 7; (with_reducible refine hc7.mono ?_); rintro e w2 ⟨r, rfl, himp, hg2⟩; cases r)
    · go_wp2
      go_ret
      exact ⟨rfl, hg1.trans hg2⟩
    have hok := by simpa using himp
    obtain ⟨hft, hN9⟩ := hfit hok
    have hgw2 := hg1.trans hg2
    have hbx2 := hbx.grow hg2
    have hc9' := hc9 hok w2 hgw2
    have hbl : (body [text]).length ≤ 10000 := by
      have := padN_lt text.length
      simp only [body, List.map_cons, List.map_nil, List.flatten_cons, List.flatten_nil, List.append_nil, padded, List.length_append, List.length_replicate]
      rw [HN.out] at hN9; omega
    obtain ⟨pk, hpk⟩ : ∃ p, p = packB src dst tag (sumOf src dst tag [text]) [text] := ⟨_, rfl⟩
    obtain ⟨L, hL⟩ : ∃ L, L = 12 + (body [text]).length := ⟨_, rfl⟩
    have hpl : pk.length = L := by rw [hpk, packB_length, hL]
    have hc8 : ∀ v w', RdBs w' v [text] → Calls Tryz.prog 8 #[.int .i64 src, .int .i64 dst, .int .u32 tag, v, .bool true] w' (RetB w' L pk) := fun v w' h => by
      rw [hL, hpk]; exact specPacket_any src dst tag v [text] w' h htag (by omega) (by simp)
    have hc10 : ∀ v w', RdB w' v pk → Calls Tryz.prog 10 #[v, .bool true] w' fun e w'' => ∃ oa oc, e = .returned (.tuple #[.int .i64 src, .int .i64 dst, .int .u32 tag, .slice oa 1 oc, .bool true]) ∧ Grow w' w'' := fun v w' h => by
      rw [hpk] at h
      refine (implPacket_any src dst tag (sumOf src dst tag [text]) true [text] v w' h (by omega) (by omega) htag (sumOf_lt _ _ _ _) (sumOf_is _ _ _ _ _) (by intro l hl; simp at hl; subst hl; exact hft) (by omega) (by simp)).mono ?_
      rintro e w'' ⟨oa, oc, rfl, _, hg⟩
      exact ⟨oa, oc, rfl, hg⟩
    have hle : le32of (pk.drop 8) = Crc.crc (nats (bareB pk)) := by
      rw [hpk, le32_pack _ _ _ _ _ (sumOf_lt _ _ _ _)]; exact sumOf_is _ _ _ _ _
    have hL12 : 12 ≤ L := by omega
    have hL2 : L ≤ 20000 := by omega
    clear hpk hL hc9 hfit hc7 hc6 himp hbl
    have HPL := Lib.hid hpl
    have HLE := Lib.hid hle
    clear hpl hle
    have x0 := hbx2.cell 0 _ rfl
    have x1 := hbx2.cell 1 _ rfl
    have x2 := hbx2.cell 2 _ rfl
    have x3 := hbx2.cell 3 _ rfl
    go_upto_region 6 with (first | (go_at_call 9; (with_reducible refine hc9'.mono ?_); rintro e w3 ⟨a3, c3, rfl, ho3, hg3⟩; have hrs := rdbs_new w3 w3.heap.size 1 rfl [.slice a3 N c3] [text] 28 ⟨ho3.rd, trivial⟩ rfl) | (go_loud (go_at_call 8; refine (hc8 _ _ hrs).mono ?_; rintro e w4 ⟨a4, c4, rfl, ho4, hg4⟩)))
    have hg4' := (hgw2.trans hg3).trans ((grow_alloc _ _).trans hg4)
    have hbase := (hgw2.trans (hg3.trans (grow_alloc w3 (.cells #[.slice a3 N c3] 28)))).size
    clear hrs ho3 hc8 hc9'
    obtain ⟨g, rfl, hLn, hLc⟩ := own_some ho4 (by rw [HPL.out]; omega)
    clear hLn
    have ho4 := ho4.mono hbase
    go_upto_region 7 with (go_loud (go_at_call 10; (with_reducible refine (hc10 _ _ ho4.rd).mono ?_); rintro e w5 ⟨oa, oc, rfl, hg5⟩))
    have ho5 := ho4.grow hg5
    have hg5' := hg4'.trans hg5
    clear ho4 hg4'
    have hj : 8 + bit / 8 < pk.length := by rw [HPL.out]; omega
    obtain ⟨old, hold⟩ : ∃ o, o = pk[8 + bit / 8] := ⟨_, rfl⟩
    have ec := fun w' (h : Grow w5.drew w') => own_cell (ho5.grow (grow_drew h)) (8 + bit / 8) hj
    rw [← hold] at ec
    have hjL : 8 + (bit : Int) / 8 < (L : Int) := by omega
    have hj0 : 0 ≤ 8 + (bit : Int) / 8 := by omega
    have hjn : (8 + (bit : Int) / 8).toNat = 8 + bit / 8 := by omega
    have w1' : IntKind.i64.wrap ((bit : Int) / 8) = (bit : Int) / 8 := by rw [IntKind.wrap_i64]; omega
    have w2' : IntKind.i64.wrap (8 + (bit : Int) / 8) = 8 + (bit : Int) / 8 := by rw [IntKind.wrap_i64]; omega
    (refine wp_region_calmK 15 95 Tryz.mixed rfl (by kernel_rfl) (fun T hT => ?_); simp only [List.take_succ_cons, List.take_zero, List.drop_succ_cons, List.drop_zero] at hT ⊢)
    iterate 15 (apply calm_val (D' := []) (hD := rfl); (· intro wZ1 hwZ1; simp only [fillAll]; go_simp; exact ⟨rfl, Grow.refl _⟩); simp only [Act.put, List.setIfInBounds_toArray, List.set_cons_succ, List.set_cons_zero])
    (intro w6 hw6; simp only [fillAll]; refine hT _ _ ?_; clear hT T)
    have ho6 := ho5.grow (grow_drew hw6)
    have hg6' := hg5'.trans (grow_drew hw6)
    clear hw6 ec ho5 hg5'
    have f := own_free ho6 (8 + bit / 8)
    have k := own_cell ho6 (8 + bit / 8) hj
    obtain ⟨y, hy, hyo⟩ := flip_any pk[8 + bit / 8] (bit % 8) (Nat.mod_lt _ (by omega))
    have ho7 := own_set ho6 (8 + bit / 8) y _ hy
    have hgg := (own_lt ho6).2
    have hg7 : Grow w _ := (Only.setCell g (8 + bit / 8) w6 (.int .u8 (bits .xor .u8 (pk[8 + bit / 8].toNat : Int) (2 ^ min (bit % 8) 8 % 256)))).below hg6' hgg
    have hbad : le32of ((pk.set (8 + bit / 8) y).drop 8) ≠ Crc.crc (nats (bareB (pk.set (8 + bit / 8) y))) := by
      rw [bare_set pk _ y (by omega), ← HLE.out]
      exact le32_set pk _ y (by omega) (by rw [HPL.out]; omega) (by rw [List.getElem?_eq_getElem hj]; intro he; exact hyo (Option.some.inj he).symm)
    have hcb := implBad_any (pk.set (8 + bit / 8) y) _ _ ho7.rd (by rw [List.length_set, HPL.out]; omega) (by rw [List.length_set, HPL.out]; omega) hbad gT gx (cell_grow hg7 hglob)
    clear hbad ho7 hyo hg6' hgg hy
    go_upto_region 8 with fail
    generalize w6.setCell ⟨g, 8 + bit / 8, none⟩ (.int .u8 (bits .xor .u8 (pk[8 + bit / 8].toNat : Int) (2 ^ min (bit % 8) 8 % 256))) = w7 at hcb hg7 ⊢
    clear f k ho6
    go_wp2_with (go_loud (go_at_call 10; refine hcb.mono ?_; rintro e w8 ⟨rfl, hg8⟩))
    go_ret
    exact ⟨rfl, hg7.trans hg8⟩
  · have hf : decide (G ≤ 2147483647 ∧ D ≤ 2147483647) = false := decide_eq_false hfits
    rw [hf] at hc6
    clear hf hfits
    go_wp2_with (go_at_call 6; (with_reducible refine (hc6 _).mono ?_); rintro e w1 ⟨rfl, hg1⟩)
    go_ret
    exact ⟨rfl, (grow_alloc _ _).trans hg1⟩
end Go.Proofs.YtdpmbchamefkmaaGreatDoor
