/-
A packet read.
-/
import Derived.Test.YtdpmbchamefkmaaGreatDoorUnr2
import Derived.Test.YtdpmbchamefkmaaGreatDoorCrc5
import Derived.Test.YtdpmbchamefkmaaGreatDoorSack1
import Derived.Deep.DeepCutAuto
import Derived.Deep.CutRange
import Derived.Deep.CutBlock
import Derived.Handy
namespace Go.Proofs.YtdpmbchamefkmaaGreatDoor
open Go.RowKit

def hdB (src dst tag sum : Nat) : List UInt8 := be2 src ++ (be2 dst ++ (be4 tag ++ le4 sum))
theorem hdB_length (src dst tag sum : Nat) : (hdB src dst tag sum).length = 12 := rfl
def packB (src dst tag sum : Nat) (ls : List (List UInt8)) : List UInt8 := hdB src dst tag sum ++ body ls
theorem packB_length (src dst tag sum : Nat) (ls : List (List UInt8)) : (packB src dst tag sum ls).length = 12 + (body ls).length := by simp [packB, hdB_length]
theorem le32of_le4 (x : Nat) (hx : x < 4294967296) (r : List UInt8) : le32of (le4 x ++ r) = x := by
  simp only [le4, List.cons_append, List.nil_append, le32of, UInt8.toNat_ofNat']
  omega

/-- what is asked of a chunk here -/
structure Fits (l : List UInt8) : Prop where
  known : Known l
theorem Fits.four {l : List UInt8} (h : Fits l) : 4 ≤ l.length := h.known.four
theorem Fits.kind {l : List UInt8} (h : Fits l) : ∃ (t : UInt8) (r : List UInt8), l = t :: r ∧ (((t.toNat : Int) = 3 ∧ KnownSack l) ∨ ((t.toNat : Int) = 0 ∧ KnownData l) ∨ ((t.toNat : Int) = 192 ∧ KnownFwd l)) := by
  rcases h.known with h | h | h
  · have h0 := h
    obtain ⟨_, _, _, _, rfl, _⟩ := h
    exact ⟨3, _, rfl, .inl ⟨rfl, h0⟩⟩
  · have h0 := h
    obtain ⟨_, _, _, _, _, _, _, _, _, rfl, _⟩ := h
    exact ⟨0, _, rfl, .inr (.inl ⟨rfl, h0⟩)⟩
  · have h0 := h
    obtain ⟨_, _, rfl, _⟩ := h
    exact ⟨192, _, rfl, .inr (.inr ⟨rfl, h0⟩)⟩
theorem Fits.head {l : List UInt8} (h : Fits l) : ∃ t r, l = t :: r ∧ t.toNat ≠ 1 ∧ t.toNat ≠ 10 := by
  obtain ⟨t, r, rfl, h⟩ := h.kind
  exact ⟨t, r, rfl, by omega, by omega⟩

set_option maxRecDepth 100000 in
set_option maxHeartbeats 4000000 in
theorem packetUnmarshal_any (pb src dst tag sum : Nat) (check : Bool) (ls : List (List UInt8)) (v : Value) (w1 w : World) (hv : RdB w1 v (packB src dst tag sum ls)) (hg : Grow w1 w) (hle : w1.heap.size ≤ pb)
    (hb : Blk w pb 70 [.int .u16 0, .int .u16 0, .int .u32 0, .slice none 0 0]) (hsrc : src < 65536) (hdst : dst < 65536) (htag : tag < 4294967296) (hsumlt : sum < 4294967296)
    (hsum : sum = Crc.crc (nats (bareB (packB src dst tag sum ls)))) (hfit : ∀ l ∈ ls, Fits l) (hlen : (body ls).length ≤ 1000000) (hnum : ls.length ≤ 100000) :
    Calls Tryz.prog 32 #[.pointer (some ⟨pb, 0, none⟩), .bool check, v] w fun e w' => ∃ vs rs us, e = .returned .nilIface ∧ Blk w' pb 70 [.int .u16 src, .int .u16 dst, .int .u32 tag, vs] ∧ Row w1.heap.size pb w.heap.size w' vs rs us ls ∧ Only pb w w' := by
  have hL := packB_length src dst tag sum ls
  have hc36 := fun w' (h : Grow w1 w') => checksum_any v _ w' (hv.grow h) (by omega) (by omega)
  rw [← hsum] at hc36
  obtain ⟨ao, c, hform⟩ := hv.form
  obtain ⟨a8, q8, cut8, hr8⟩ := cut_l hv 8 (4 + (body ls).length) 8 rfl (by omega)
  have hd8 : (packB src dst tag sum ls).drop 8 = le4 sum ++ body ls := by simp [packB, hdB, be2, be4]
  rw [hd8] at hr8
  have hc35 := fun w' (h : Grow w1 w') => leU32_any _ _ w' ((hr8 w1 hv).grow h) (by simp [le4])
  rw [le32of_le4 sum hsumlt] at hc35
  obtain ⟨a0, q0, cut0, call0⟩ := rdU16 hv 0 (12 + (body ls).length) src (be2 dst ++ (be4 tag ++ le4 sum) ++ body ls) 0 rfl (by omega) hsrc (by simp [packB, hdB])
  obtain ⟨a2, q2, cut2, call2⟩ := rdU16 hv 2 (10 + (body ls).length) dst (be4 tag ++ le4 sum ++ body ls) 2 rfl (by omega) hdst (by simp [packB, hdB, be2])
  obtain ⟨a4, q4, cut4, call4⟩ := rdU32 hv 4 (8 + (body ls).length) tag (le4 sum ++ body ls) 4 rfl (by omega) htag (by simp [packB, hdB, be2])
  obtain ⟨L, hLe⟩ : ∃ L, L = 12 + (body ls).length := ⟨_, rfl⟩
  rw [hL, ← hLe] at hform
  subst hform
  have hL12 : ¬ (L : Int) < 12 := by omega
  have hLb : L ≤ 1000012 := by omega
  have HL := Lib.hid hLe
  have HS := Lib.hid hsum
  clear hsum hd8
  clear hr8
  have hfirst : 16 ≤ L → ∃ g o t, ao = some ⟨g, o, none⟩ ∧ w.cell? ⟨g, o + 12, none⟩ = some (.int .u8 (t : Nat)) ∧ t ≠ 1 ∧ t ≠ 10 := by
    intro h16
    obtain ⟨g, o, c', hv1, _, hcell⟩ := hv.at (by rw [hL, ← hLe]; omega)
    simp only [Value.slice.injEq] at hv1
    cases ls with
    | nil => simp [body] at hLe; omega
    | cons l0 ls =>
      obtain ⟨t, r, rfl, h1, h10⟩ := (hfit l0 (by simp)).head
      exact ⟨g, o, t.toNat, hv1.1, cell_grow hg (hcell 12 t (by simp [packB, hdB, be2, be4, le4, body, padded])), h1, h10⟩
  clear hL hLe
  go_enter Tryz.func32, Tryz.ntmps32
  go_upto_if 23 with fail
  go_cut [1] from 23 to 30 (fun c w' => c = .bool check ∧ w = w')
  case first =>
    by_cases h16 : 16 ≤ L
    · obtain ⟨g, o, t, rfl, hcell, h1, h10⟩ := hfirst h16
      have i1 : (12 : Int) < (L : Int) := by omega
      have i2 : (16 : Int) ≤ (L : Int) := by omega
      have e1 : ((t : Int) == 1) = false := beq_eq_false_iff_ne.2 (by omega)
      have e10 : ((t : Int) == 10) = false := beq_eq_false_iff_ne.2 (by omega)
      go_wp2
      go_meet
      exact ⟨rfl, rfl⟩
    · have i2 : ¬ (16 : Int) ≤ (L : Int) := by omega
      go_wp2
      go_meet
      exact ⟨rfl, rfl⟩
  clear hfirst
  case rest =>
  obtain ⟨rfl, rfl⟩ := hcut
  go_wp2
  have cl := fun w' (h : Grow w.drew w') => hc35 w' (hg.trans (grow_drew h))
  (refine wp_region_calmK 4 199 Tryz.mixed rfl (by kernel_rfl) (fun T hT => ?_); simp only [List.take_succ_cons, List.take_zero, List.drop_succ_cons, List.drop_zero] at hT ⊢)
  iterate 3 (apply calm_val (D' := []) (hD := rfl); (· intro wZ1 hwZ1; simp only [fillAll]; go_simp; exact ⟨rfl, Grow.refl _⟩); simp only [Act.put, List.setIfInBounds_toArray, List.set_cons_succ, List.set_cons_zero])
  (apply calm_val (D' := []) (hD := rfl); (· intro wZ3 hwZ3; simp only [fillAll]; go_simp; refine ⟨Grow.refl _, (cl wZ3 hwZ3).mono ?_⟩; exact fun e wZ4 h => ⟨_, h.1, rfl, h.2⟩); simp only [Act.put, List.setIfInBounds_toArray, List.set_cons_succ, List.set_cons_zero])
  (intro w2 hw2; simp only [fillAll]; refine hT _ _ ?_; clear hT T)
  have hg2 := grow_drew hw2
  clear hw2 cl cut8 hc35
  go_upto_region 10 with fail
  go_cut [39] from 35 to 39 (fun c w' => (∃ b, c = .bool b) ∧ w2 = w')
  case first =>
    by_cases hs0 : sum = 0
    · have e1 : ((sum : Int) == 0) = true := by simp [hs0]
      cases check
      · go_wp2
        go_meet
        exact ⟨⟨_, rfl⟩, rfl⟩
      · go_wp2
        go_meet
        exact ⟨⟨_, rfl⟩, rfl⟩
    · have e1 : ((sum : Int) == 0) = false := beq_eq_false_iff_ne.2 (by omega)
      cases check
      · go_wp2
        go_meet
        exact ⟨⟨_, rfl⟩, rfl⟩
      · go_wp2
        go_meet
        exact ⟨⟨_, rfl⟩, rfl⟩
  case rest =>
  obtain ⟨⟨bb, rfl⟩, rfl⟩ := hcut
  go_upto_if 39 with fail
  go_cut [] from 39 to 45 (fun w' => Grow w w')
  case first =>
    cases bb
    · go_wp2
      go_meet
      exact hg2
    · go_wp2_with (go_loud (go_at_call 36; (with_reducible refine (hc36 _ (hg.trans hg2)).mono ?_); rintro e w3 ⟨rfl, hg3⟩))
      go_meet
      exact hg2.trans hg3
  clear hc36
  case rest =>
  go_wp2
  rename World => w4
  have hb4 := hb.grow hcut
  have ho4 : Only pb w w4 := Only.of_grow hcut
  have hg4 := hg.trans hcut
  have hpbw : pb < w.heap.size := hb.lt
  clear hcut hg2 hb
  have cl := fun w' (h : Grow w4.drew w') => call0 w' (hg4.trans (grow_drew h))
  (refine wp_region_calmK 7 199 Tryz.mixed rfl (by kernel_rfl) (fun T hT => ?_); simp only [List.take_succ_cons, List.take_zero, List.drop_succ_cons, List.drop_zero] at hT ⊢)
  iterate 4 (apply calm_val (D' := []) (hD := rfl); (· intro wZ1 hwZ1; simp only [fillAll]; go_simp; exact ⟨rfl, Grow.refl _⟩); simp only [Act.put, List.setIfInBounds_toArray, List.set_cons_succ, List.set_cons_zero])
  (apply calm_val (D' := []) (hD := rfl); (· intro wZ3 hwZ3; simp only [fillAll]; go_simp; refine ⟨Grow.refl _, (cl wZ3 hwZ3).mono ?_⟩; exact fun e wZ4 h => ⟨_, h.1, rfl, h.2⟩); simp only [Act.put, List.setIfInBounds_toArray, List.set_cons_succ, List.set_cons_zero])
  iterate 2 (apply calm_val (D' := []) (hD := rfl); (· intro wZ1 hwZ1; simp only [fillAll]; go_simp; exact ⟨rfl, Grow.refl _⟩); simp only [Act.put, List.setIfInBounds_toArray, List.set_cons_succ, List.set_cons_zero])
  (intro w5 hwQ; simp only [fillAll]; refine hT _ _ ?_; clear hT T)
  have hb5 := hb4.grow (grow_drew hwQ)
  have ho5 := ho4.grow (grow_drew hwQ)
  clear hwQ cl cut0 call0
  have f := hb5.free 0
  have k := hb5.cell 0 _ rfl
  go_wp2
  refine wp_at (fun w' => Blk w' pb 70 [.int .u16 src, .int .u16 0, .int .u32 0, .slice none 0 0] ∧ Only pb w w') ⟨hb5.set 0 (.int .u16 src), ho5.trans (Only.setCell _ _ _ _)⟩ ?_
  clear f k hb5 ho5 hb4 ho4 hg4
  rintro w6 ⟨hb6, ho6⟩
  have hg6 := ho6.below hg hle
  have cl := fun w' (h : Grow w6.drew w') => call2 w' (hg6.trans (grow_drew h))
  (refine wp_region_calmK 7 199 Tryz.mixed rfl (by kernel_rfl) (fun T hT => ?_); simp only [List.take_succ_cons, List.take_zero, List.drop_succ_cons, List.drop_zero] at hT ⊢)
  iterate 4 (apply calm_val (D' := []) (hD := rfl); (· intro wZ1 hwZ1; simp only [fillAll]; go_simp; exact ⟨rfl, Grow.refl _⟩); simp only [Act.put, List.setIfInBounds_toArray, List.set_cons_succ, List.set_cons_zero])
  (apply calm_val (D' := []) (hD := rfl); (· intro wZ3 hwZ3; simp only [fillAll]; go_simp; refine ⟨Grow.refl _, (cl wZ3 hwZ3).mono ?_⟩; exact fun e wZ4 h => ⟨_, h.1, rfl, h.2⟩); simp only [Act.put, List.setIfInBounds_toArray, List.set_cons_succ, List.set_cons_zero])
  iterate 2 (apply calm_val (D' := []) (hD := rfl); (· intro wZ1 hwZ1; simp only [fillAll]; go_simp; exact ⟨rfl, Grow.refl _⟩); simp only [Act.put, List.setIfInBounds_toArray, List.set_cons_succ, List.set_cons_zero])
  (intro w7 hwQ; simp only [fillAll]; refine hT _ _ ?_; clear hT T)
  have hb7 := hb6.grow (grow_drew hwQ)
  have ho7 := ho6.grow (grow_drew hwQ)
  clear hwQ cl cut2 call2
  have f := hb7.free 1
  have k := hb7.cell 1 _ rfl
  go_wp2
  refine wp_at (fun w' => Blk w' pb 70 [.int .u16 src, .int .u16 dst, .int .u32 0, .slice none 0 0] ∧ Only pb w w') ⟨hb7.set 1 (.int .u16 dst), ho7.trans (Only.setCell _ _ _ _)⟩ ?_
  clear f k hb7 ho7 hb6 ho6 hg6
  rintro w8 ⟨hb8, ho8⟩
  have hg8 := ho8.below hg hle
  have cl := fun w' (h : Grow w8.drew w') => call4 w' (hg8.trans (grow_drew h))
  (refine wp_region_calmK 7 199 Tryz.mixed rfl (by kernel_rfl) (fun T hT => ?_); simp only [List.take_succ_cons, List.take_zero, List.drop_succ_cons, List.drop_zero] at hT ⊢)
  iterate 4 (apply calm_val (D' := []) (hD := rfl); (· intro wZ1 hwZ1; simp only [fillAll]; go_simp; exact ⟨rfl, Grow.refl _⟩); simp only [Act.put, List.setIfInBounds_toArray, List.set_cons_succ, List.set_cons_zero])
  (apply calm_val (D' := []) (hD := rfl); (· intro wZ3 hwZ3; simp only [fillAll]; go_simp; refine ⟨Grow.refl _, (cl wZ3 hwZ3).mono ?_⟩; exact fun e wZ4 h => ⟨_, h.1, rfl, h.2⟩); simp only [Act.put, List.setIfInBounds_toArray, List.set_cons_succ, List.set_cons_zero])
  iterate 2 (apply calm_val (D' := []) (hD := rfl); (· intro wZ1 hwZ1; simp only [fillAll]; go_simp; exact ⟨rfl, Grow.refl _⟩); simp only [Act.put, List.setIfInBounds_toArray, List.set_cons_succ, List.set_cons_zero])
  (intro w9 hwQ; simp only [fillAll]; refine hT _ _ ?_; clear hT T)
  have hb9 := hb8.grow (grow_drew hwQ)
  have ho9 := ho8.grow (grow_drew hwQ)
  clear hwQ cl cut4 call4
  have f := hb9.free 2
  have k := hb9.cell 2 _ rfl
  go_wp2
  refine wp_at (fun w' => Blk w' pb 70 [.int .u16 src, .int .u16 dst, .int .u32 tag, .slice none 0 0] ∧ Only pb w w') ⟨hb9.set 2 (.int .u32 tag), ho9.trans (Only.setCell _ _ _ _)⟩ ?_
  clear f k hb9 ho9 hb8 ho8 hg8
  rintro w10 ⟨hb10, ho10⟩
  have hg10 := ho10.below hg hle
  have hnv : (packB src dst tag sum ls).length = L := by rw [packB_length, HL.out]
  have HNV := Lib.hid hnv
  clear hnv
  go_loopw [7] (fun t wr => ∃ (k : Nat) (va : Option Addr) (vc : Nat) (rs : List (Nat × Nat)) (us : List Value), k ≤ ls.length ∧ t = .int .i64 (off ls k : Nat) ∧ Blk wr pb 70 [.int .u16 src, .int .u16 dst, .int .u32 tag, .slice va k vc] ∧ Row w1.heap.size pb w.heap.size wr (.slice va k vc) rs us (ls.take k) ∧ Only pb w wr) (fun t _ => L - (intOf t).toNat)
  case atStart => exact ⟨0, none, 0, [], [], by omega, by rw [off_zero]; rfl, hb10, Row.nil _ _ _ _, ho10⟩
  case round =>
    clear hb10 ho10 hg10
    obtain ⟨k, va, vc, rs, us, hk, rfl, hbr, hrow, hor⟩ := hrel
    by_cases hlt : k < ls.length
    · have hgr := hor.below hg hle
      have hul : us.length = k := by rw [← hrow.chks.len2, List.length_take, Nat.min_eq_left hk]
      have hos := off_succ ls k hlt
      have hod := off_drop (hdB src dst tag sum) ls k hlt (hdB_length _ _ _ _)
      have hol := off_le ls k hlt
      rw [← HL.out] at hol
      have htk : ls.take (k + 1) = ls.take k ++ [ls[k]] := by rw [List.take_add_one, List.getElem?_eq_getElem hlt]; rfl
      have hft := hfit ls[k] (List.getElem_mem hlt)
      have hfour : ∀ l ∈ ls.drop (k + 1), 4 ≤ l.length := fun l hl => (hfit l (List.mem_of_mem_drop hl)).four
      have hpl := hft.four
      change (packB src dst tag sum ls).drop (off ls k) = _ at hod
      rw [padded_rest] at hod
      have hrz := rest_zero (ls[k].length) (ls.drop (k + 1)) hfour
      have hpadl : (padded ls[k]).length = ls[k].length + padN ls[k].length := by simp [padded]
      obtain ⟨l, hl⟩ : ∃ l, l = ls[k] := ⟨_, rfl⟩
      obtain ⟨rest, hrest⟩ : ∃ r, r = List.replicate (padN ls[k].length) (0 : UInt8) ++ body (ls.drop (k + 1)) := ⟨_, rfl⟩
      have hrl : rest.length ≤ L := by
        have h1 := congrArg List.length hod
        rw [List.length_drop, HNV.out, ← hrest, List.length_append] at h1
        omega
      rw [← hrest] at hod hrz
      rw [← hl] at hos hod hol htk hft hpl hpadl
      clear hl hrest hfour
      obtain ⟨O, hO⟩ : ∃ O, O = off ls k := ⟨_, rfl⟩
      rw [← hO] at hos hod hol ⊢
      clear hO
      obtain ⟨ar, cr, cutr, rawr⟩ := cut_l hv O (L - O) (O : Int) rfl (by rw [HNV.out]; omega)
      have hraw := rawr w1 hv
      rw [hod] at hraw
      have hMl : L - O = l.length + rest.length := by
        have h1 := congrArg List.length hod
        rw [List.length_drop, HNV.out, List.length_append] at h1
        exact h1
      obtain ⟨M, hM⟩ : ∃ M, M = L - O := ⟨_, rfl⟩
      rw [← hM] at cutr hraw hMl
      have m1 : (O : Int) < (L : Int) := by omega
      have m4 : ¬ (M : Int) < 4 := by omega
      have m0 : (0 : Int) < (M : Int) := by omega
      have m0' : 0 < M := by omega
      have HMl := Lib.hid hMl
      have HPL := Lib.hid hpadl
      have HOS := Lib.hid hos
      have HTK := Lib.hid htk
      clear rawr hod hM hMl hos htk hpadl
      obtain ⟨t, r, hlt1, hkind⟩ := hft.kind
      obtain ⟨g, o, c', hv1, _, hcell⟩ := hraw.at (by rw [List.length_append]; omega)
      have k3 : wr.cell? ⟨g, o, none⟩ = some (.int .u8 (t.toNat : Nat)) := cell_grow hgr (hcell 0 t (by simp [hlt1]))
      have hmost := hft.known.most
      obtain ⟨ty, hty⟩ : ∃ ty : Int, ty = (t.toNat : Nat) := ⟨_, rfl⟩
      rw [← hty] at k3 hkind
      simp only [Value.slice.injEq] at hv1
      obtain ⟨rfl, hv2, rfl⟩ := hv1
      clear hcell hv2 hlt1 hty
      go_upto_block 3 with fail
      go_cut [12] from 81 to 81 (fun c w' => ∃ b, wr.heap.size ≤ b ∧ Unread w1 b w' c l ∧ Grow wr w')
      case first =>
        rcases hkind with ⟨rfl, hk⟩ | ⟨rfl, hk⟩ | ⟨rfl, hk⟩
        · go_wp2
          go_meet
          exact ⟨_, Nat.le_refl _, sack_unread _ l hk w1 _ (Blk.new _ _ _), grow_alloc _ _⟩
        · go_wp2
          go_meet
          exact ⟨_, Nat.le_refl _, data_unread _ l hk w1 _ (Blk.new _ _ _), grow_alloc _ _⟩
        · go_wp2
          go_meet
          exact ⟨_, Nat.le_refl _, fwd_unread _ l hk w1 _ (Blk.new _ _ _), grow_alloc _ _⟩
      case rest =>
      rename World => wA
      obtain ⟨b, hble, ⟨T, f, fv, T2, cs, rfl, hbA, hinvU, hinvL, hread⟩, hgA⟩ := hcut
      clear k3 hkind
      have hgrs := hgr.size
      have hpbr : pb < wr.heap.size := hbr.lt
      have hc := hread (.slice (some ⟨g, o, none⟩) M cr) rest wA hraw (by omega) hrz (hgr.trans hgA) (by omega) hbA
      clear hread
      have hown0 := hrow.own
      rw [hul] at hown0
      have hkb : k ≤ 100000 := by omega
      go_wp2_with (first | (refine wpl_invoke1 rfl _ _ _ _ rfl (.iface T (.pointer (some ⟨b, 0, none⟩))) (.slice (some ⟨g, o, none⟩) M cr) rfl rfl f _ (hinvU _ _) _ hc ?_; rintro e wB ⟨rfl, hoB, T3, cs3, hbB, hM, hLn⟩; refine ⟨_, rfl, ?_⟩; have hgB : Grow wr wB := hoB.below hgA (by omega); have k3 := (hbr.grow hgB).cell 3 _ rfl) | (refine wpl_push rfl _ _ 68 rfl w.heap.size 73 .nilIface 16 Tryz.underlying68 Tryz.info73 rfl _ k us rfl (own_grow hown0 (hgB.trans (grow_alloc _ _))) ⟨wB.heap.size, 0, none⟩ 1 (.iface T (.pointer (some ⟨b, 0, none⟩))) rfl ((Blk.new wB 73 [.iface T (.pointer (some ⟨b, 0, none⟩))]).cell 0 _ rfl) rfl ?_ ?_ ?_ ?_))
      · omega
      · omega
      · exact Nat.le_trans hor.size (Nat.le_trans hgB.size (Nat.le_succ _))
      intro a' c' w4 hown4 hgr4 hblk4
      have hgC : Grow wB (wB.alloc (.cells #[.iface T (.pointer (some ⟨b, 0, none⟩))] 73)) := grow_alloc _ _
      have hszC : (wB.alloc (.cells #[.iface T (.pointer (some ⟨b, 0, none⟩))] 73)).heap.size ≤ wB.heap.size + 1 := by simp
      generalize wB.alloc (.cells #[.iface T (.pointer (some ⟨b, 0, none⟩))] 73) = wC at hgr4 hblk4 hgC hszC
      clear k3
      have hob : ∀ g', (Value.slice va k vc).ownBlock = some g' → w.heap.size ≤ g' ∧ g' < wr.heap.size := fun g' h => hown0.lt g' h
      have hm : Marsh w1.heap.size b wB.heap.size wC (.iface T (.pointer (some ⟨b, 0, none⟩))) l := hM wB.heap.size wC (.of_grow hgC) (Nat.le_refl _) hgC.size
      have hblk5 : ∀ g', (Value.slice a' (k + 1) c').ownBlock = some g' → (Value.slice va k vc).ownBlock = some g' ∨ wC.heap.size ≤ g' := by
        intro g' hg'
        rcases hblk4 with h | h
        · exact .inl (h ▸ hg')
        · rw [h] at hg'; cases hg'; exact .inr hszC
      have hrow4 := hrow.push (hgB.trans hgC) hgr4 (by rw [hul]; exact hown4) hblk5 hm hble hpbr hle hpbw
      rw [← HTK.out] at hrow4
      have hp4 : Blk w4 pb 70 [.int .u16 src, .int .u16 dst, .int .u32 tag, .slice va k vc] := blk_grown (hbr.grow (hgB.trans hgC)) hgr4 (by intro he; have := hob pb he; omega)
      have hb4 := blk_grown (hbB.grow hgC) hgr4 (by intro he; have := hob b he; omega)
      have ho4 : Only pb w w4 := (hor.grow (hgB.trans hgC)).grown hgr4 fun g' h => (hob g' h).1
      clear hm hgr4 hown4 hblk4 hgC hgB hbB hoB hbA hgA hown0 hbr hrow hor hob hc hM hinvU
      have f := hp4.free 3
      have k3 := hp4.cell 3 _ rfl
      go_upto_region 61 with fail
      refine wp_at (fun w' => Blk w' pb 70 [.int .u16 src, .int .u16 dst, .int .u32 tag, .slice a' (k + 1) c'] ∧ Row w1.heap.size pb w.heap.size w' (.slice a' (k + 1) c') (rs ++ [(b, wB.heap.size)]) (us ++ [.iface T (.pointer (some ⟨b, 0, none⟩))]) (ls.take (k + 1)) ∧ Only pb w w' ∧ Blk w' b T3 cs3) ⟨hp4.set 3 _, hrow4.only (Only.setCell _ _ _ _) hle hpbw, ho4.trans (Only.setCell _ _ _ _), hb4.set_other _ _ (by omega)⟩ ?_
      clear f k3 hp4 hrow4 ho4 hb4
      rintro w5 ⟨hp5, hrow5, ho5, hb5⟩
      obtain ⟨N, hN⟩ : ∃ N, N = l.length - 4 := ⟨_, rfl⟩
      have hpadN : (padded l).length = 4 + N + padN N := by
        rw [HPL.out]; unfold padN; omega
      rw [← hN] at hLn
      obtain ⟨P, hP⟩ : ∃ P, P = padN N := ⟨_, rfl⟩
      have hc39 : ∀ w, Calls Tryz.prog 39 #[.int .i64 (N : Int)] w fun e w' => e = .returned (.int .i64 (P : Int)) ∧ w = w' := fun w => by
        have := padding_any (N : Int) w (by omega)
        rw [show ((4 - (N : Int) % 4) % 4) = (P : Int) by rw [hP]; unfold padN; omega] at this
        exact this
      have hPl : P < 4 := by rw [hP]; exact padN_lt N
      have hNl : N ≤ 9000 := by omega
      rw [← hP] at hpadN
      have n1 : IntKind.i64.wrap (4 + (N : Int)) = 4 + (N : Int) := by rw [IntKind.wrap_i64]; omega
      have n2 : IntKind.i64.wrap (4 + (N : Int) + (P : Int)) = 4 + (N : Int) + (P : Int) := by rw [IntKind.wrap_i64]; omega
      have n3 : IntKind.i64.wrap ((O : Int) + (4 + (N : Int) + (P : Int))) = (O : Int) + (4 + (N : Int) + (P : Int)) := by rw [IntKind.wrap_i64]; omega
      have hoffn : off ls (k + 1) = O + (4 + N + P) := by rw [HOS.out, hpadN]
      have HOF := Lib.hid hoffn
      clear hN hP hpadN hoffn
      go_upto_region 62 with (first | (refine wpl_invoke rfl _ _ _ rfl (.iface T (.pointer (some ⟨b, 0, none⟩))) rfl fv _ (hinvL _) _ (hLn w5 hb5) ?_; rintro e w6 ⟨rfl, hg6⟩; refine ⟨_, rfl, ?_⟩) | (go_at_call 39; (with_reducible refine (hc39 _).mono ?_); rintro e w7 ⟨rfl, rfl⟩))
      have hb6 := hb5.grow hg6
      go_wp2_with (refine wpl_invoke rfl _ _ _ rfl (.iface T (.pointer (some ⟨b, 0, none⟩))) rfl fv _ (hinvL _) _ (hLn w6 hb6) ?_; rintro e w7 ⟨rfl, hg7⟩; refine ⟨_, rfl, ?_⟩)
      go_roundw
      case rel => exact ⟨k + 1, a', c', _, _, by omega, by rw [HOF.out]; go_num, hp5.grow (hg6.trans hg7), hrow5.grow (hg6.trans hg7), ho5.grow (hg6.trans hg7)⟩
      case measure => simp [intOf]; omega
    · obtain rfl : k = ls.length := by omega
      have he : off ls ls.length = L := by rw [off_all, ← HL.out]
      rw [he]
      rw [List.take_length] at hrow
      clear he
      go_wp2
      go_ret
      exact ⟨_, rs, us, rfl, hbr, hrow, hor⟩
end Go.Proofs.YtdpmbchamefkmaaGreatDoor
