/-
A packet taken apart: its numbers and its chunks' texts.
-/
import Derived.Test.YtdpmbchamefkmaaGreatDoorPkt1
import Derived.Test.YtdpmbchamefkmaaGreatDoorZZ0
namespace Go.Proofs.YtdpmbchamefkmaaGreatDoor
open Go.RowKit

theorem Tryz.info28' : (Tryz.prog.info? 28).map (fun i => (i.zero, i.size, i.bytes)) = some (some (.slice none 0 0), 1, 24) := Tryz.info28

set_option maxRecDepth 100000 in
set_option maxHeartbeats 4000000 in
theorem zzPacket_any (src dst tag sum : Nat) (check : Bool) (ls : List (List UInt8)) (v : Value) (w : World) (hv : RdB w v (packB src dst tag sum ls)) (hsrc : src < 65536) (hdst : dst < 65536) (htag : tag < 4294967296) (hsumlt : sum < 4294967296)
    (hsum : sum = Crc.crc (nats (bareB (packB src dst tag sum ls)))) (hfit : ∀ l ∈ ls, Fits l) (hlen : (body ls).length ≤ 1000000) (hnum : ls.length ≤ 100000) :
    Calls Tryz.prog 22 #[v, .bool check] w fun e w' => ∃ oa oc, e = .returned (.tuple #[.int .i64 src, .int .i64 dst, .int .u32 tag, .slice oa ls.length oc, .nilIface]) ∧ RdBs w' (.slice oa ls.length oc) ls ∧ Grow w w' := by
  obtain ⟨ao, c, rfl⟩ := hv.form
  have hlen1 : ∀ l ∈ ls, l.length ≤ 1000000 := fun l hl => by
    obtain ⟨k, hk, rfl⟩ := List.mem_iff_getElem.1 hl
    have := off_le ls k hk
    simp only [padded, List.length_append] at this
    unfold off at this
    omega
  have HSUM := Lib.hid hsum
  clear hsum
  go_enter Tryz.func22, Tryz.ntmps22
  go_upto_region 2 with fail
  have hbn := Blk.new w 70 [.int .u16 0, .int .u16 0, .int .u32 0, .slice none 0 0]
  obtain ⟨pb, hpe⟩ : ∃ b, b = w.heap.size := ⟨_, rfl⟩
  rw [← hpe] at hbn ⊢
  have hple : w.heap.size ≤ pb := by omega
  clear hpe
  refine wp_at (fun w' => Blk w' pb 70 [.int .u16 0, .int .u16 0, .int .u32 0, .slice none 0 0] ∧ Grow w w') ⟨hbn, grow_alloc _ _⟩ ?_
  clear hbn
  rintro wA ⟨hbA, hgA⟩
  have hc := packetUnmarshal_any pb src dst tag sum check ls _ w wA hv hgA hple hbA hsrc hdst htag hsumlt HSUM.out hfit hlen hnum
  go_wp2_with (go_loud (go_at_call 32; (with_reducible refine hc.mono ?_); rintro e w2 ⟨vs, rs, us, rfl, hb2, hrow2, ho2⟩; obtain ⟨va, vc, rfl⟩ := own_form hrow2.own; have k3 := hb2.cell 3 _ rfl))
  obtain ⟨n, hn⟩ : ∃ n, n = us.length := ⟨_, rfl⟩
  have hnl : ls.length = n := by rw [hn]; exact hrow2.chks.len2
  have hnr : rs.length = n := by rw [hn]; exact hrow2.chks.len1
  rw [← hn] at hb2 hrow2 k3 ⊢
  have hnb : n ≤ 100000 := by omega
  have hown2 := hrow2.own
  rw [← hn] at hown2
  obtain ⟨S, hS⟩ : ∃ S, S = w2.heap.size := ⟨_, rfl⟩
  have hSl : S ≤ w2.heap.size := by omega
  have hbel : ∀ r ∈ rs, r.2 ≤ S ∧ r.1 ≤ r.2 ∧ w.heap.size ≤ r.1 := by rw [hS]; exact hrow2.chks.below
  have hpbS : pb < S := by rw [hS]; exact hb2.lt
  have hrowS : ∀ g, (Value.slice va n vc).ownBlock = some g → wA.heap.size ≤ g ∧ g < S := by rw [hS]; exact fun g hg => hown2.lt g hg
  have hgS : w.heap.size ≤ S := by rw [hS]; exact Nat.le_trans hgA.size ho2.size
  have hg2 : Grow w w2 := ho2.below hgA hple
  clear hS k3 hc
  have HN := Lib.hid hn
  clear hn
  go_loopw [11, 30] (fun out i wr => ∃ (j : Nat) (oa : Option Addr) (oc : Nat) (outs : List Value), j ≤ n ∧ i = .int .i64 j ∧ out = .slice oa j oc ∧ outs.length = j ∧ Outs S wr (.slice oa j oc) outs (ls.take j) ∧ Blk wr pb 70 [.int .u16 src, .int .u16 dst, .int .u32 tag, .slice va n vc] ∧
    wr.ownsRow wA.heap.size 73 1 (.slice va n vc) n us ∧ (∀ m r u l, j ≤ m → rs[m]? = some r → us[m]? = some u → ls[m]? = some l → Marsh w.heap.size r.1 r.2 wr u l) ∧ Grow w wr ∧ S ≤ wr.heap.size) (fun _ i _ => n - (intOf i).toNat)
  case atStart => exact ⟨0, none, 0, [], by omega, rfl, rfl, rfl, Outs.nil _ _, hb2, hown2, fun m r u l _ h1 h2 h3 => hrow2.chks.each m r u l h1 h2 h3, hg2, hSl⟩
  case round =>
    have hsep := hrow2.chks.sep
    have hapart := hrow2.apart
    have habove := hrow2.above
    clear hb2 hown2 hg2 hSl hrow2 ho2
    obtain ⟨j, oa, oc, outs, hj, rfl, rfl, hol, houts, hbr, hownr, hmarsh, hgr, hSr⟩ := hrel
    by_cases hlt : j < n
    · have hju : j < us.length := by rw [← HN.out]; exact hlt
      have hjl : j < ls.length := by rw [hnl]; exact hlt
      have hjr : j < rs.length := by rw [hnr]; exact hlt
      have hmj := hmarsh j rs[j] us[j] ls[j] (Nat.le_refl _) (List.getElem?_eq_getElem hjr) (List.getElem?_eq_getElem hju) (List.getElem?_eq_getElem hjl)
      have hrj := hbel rs[j] (List.getElem_mem hjr)
      have habj := habove rs[j] (List.getElem_mem hjr)
      have hapj : ∀ g, (Value.slice va n vc).ownBlock = some g → g < rs[j].1 ∨ rs[j].2 ≤ g := fun g hg => hapart g hg rs[j] (List.getElem_mem hjr)
      have hsepj : ∀ m r, j + 1 ≤ m → rs[m]? = some r → rs[j].2 ≤ r.1 := fun m r hm hr => by
        obtain ⟨hm', rfl⟩ := List.getElem?_eq_some_iff.1 hr
        exact List.pairwise_iff_getElem.1 hsep j m hjr hm' (by omega)
      have hll := hlen1 ls[j] (List.getElem_mem hjl)
      have htk : ls.take (j + 1) = ls.take j ++ [ls[j]] := by rw [List.take_add_one, List.getElem?_eq_getElem hjl]; rfl
      have husj : us[j]? = some us[j] := List.getElem?_eq_getElem hju
      obtain ⟨r, hr⟩ : ∃ r, r = rs[j] := ⟨_, rfl⟩
      obtain ⟨u, hu⟩ : ∃ u, u = us[j] := ⟨_, rfl⟩
      obtain ⟨l, hl⟩ : ∃ l, l = ls[j] := ⟨_, rfl⟩
      rw [← hr, ← hu, ← hl] at hmj
      rw [← hr] at hrj habj hapj hsepj
      rw [← hl] at hll htk
      rw [← hu] at husj
      clear hr hu hl hju hjl hjr
      obtain ⟨hB, hlo, hhi, T, p, f, rfl, hinv, hcm⟩ := hmj
      obtain ⟨g0, o0, c0, hv0, _, hcell0⟩ := Rd.at (Rd.of_own hownr) (by omega)
      have kj := hcell0 j _ husj
      simp only [Value.slice.injEq] at hv0
      obtain ⟨rfl, hv1, rfl⟩ := hv0
      clear hv1 hcell0
      have hjI : (j : Int) < (n : Int) := by omega
      have HTK := Lib.hid htk
      clear htk
      have hownb : ∀ b, (Value.slice oa j oc).ownBlock = some b → S ≤ b ∧ b < wr.heap.size := fun b hb => houts.own.lt b hb
      go_wp2_with (first | (refine wpl_invoke rfl _ _ _ rfl (.iface T p) rfl f p (hinv _) _ (hcm wr (Kept.refl _ _ _ _)) ?_; rintro e wM ⟨g, rfl, hgle, hblk, hwi⟩; refine ⟨_, rfl, ?_⟩) | (refine wpl_push rfl _ _ 31 rfl S 28 (.slice none 0 0) 24 Tryz.underlying31 Tryz.info28 rfl _ j outs rfl (own_grow (hol ▸ (houts.within hwi hrj.1).own) (grow_alloc _ _)) ⟨wM.heap.size, 0, none⟩ 1 (.slice (some ⟨g, 0, none⟩) l.length l.length) rfl ((Blk.new wM 28 [.slice (some ⟨g, 0, none⟩) l.length l.length]).cell 0 _ rfl) rfl ?_ ?_ ?_ ?_))
      · omega
      · omega
      · exact Nat.le_trans hSr (Nat.le_trans hwi.size (grow_alloc wM _).size)
      intro a' c' w4 hown4 hgr4 hblk4
      have hgC : Grow wM (wM.alloc (.cells #[.slice (some ⟨g, 0, none⟩) l.length l.length] 28)) := grow_alloc _ _
      have hszC : (wM.alloc (.cells #[.slice (some ⟨g, 0, none⟩) l.length l.length] 28)).heap.size ≤ wM.heap.size + 1 := by simp
      generalize wM.alloc (.cells #[.slice (some ⟨g, 0, none⟩) l.length l.length] 28) = wC at hgr4 hblk4 hgC hszC
      have hblk5 : ∀ b, (Value.slice a' (j + 1) c').ownBlock = some b → (Value.slice oa j oc).ownBlock = some b ∨ wC.heap.size ≤ b := by
        intro b hb
        rcases hblk4 with h | h
        · exact .inl (h ▸ hb)
        · rw [h] at hb; cases hb; exact .inr hszC
      have houtC := (houts.within hwi hrj.1).grow hgC
      have houts4 := houtC.push hgr4 g l (by rw [hol]; exact hown4) hblk5 (by omega) (hblk.grow hgC) (fun he => by have := hownb g he; omega) (by omega)
      rw [← HTK.out] at houts4
      have hbC : Blk wC pb 70 _ := Blk.grow ((hwi.block pb hbr.lt (by omega)).trans hbr) hgC
      have hb4 := blk_grown hbC hgr4 (by intro he; have := hownb pb he; omega)
      have hownrM : wM.ownsRow wA.heap.size 73 1 (.slice (some ⟨g0, o0, none⟩) n vc) n us := own_block hownr fun b hb => hwi.block b (hownr.lt b hb).2 (by have := hapj b hb; omega)
      have hownr4 : w4.ownsRow wA.heap.size 73 1 (.slice (some ⟨g0, o0, none⟩) n vc) n us := own_block (own_grow hownrM hgC) fun b hb => hgr4.block b ((own_grow hownrM hgC).lt b hb).2 (by intro he; have h1 := hownb b he.symm; have h2 := hrowS b hb; omega)
      have hmarsh4 : ∀ m r u l, j + 1 ≤ m → rs[m]? = some r → us[m]? = some u → ls[m]? = some l → Marsh w.heap.size r.1 r.2 w4 u l := fun m r' u' l' hm h1 h2 h3 =>
        (((hmarsh m r' u' l' (by omega) h1 h2 h3).kept (hwi.kept hB (.inl (hsepj m r' hm h1)))).kept (.of_grow hgC)).kept (.of_grown hgr4 fun b hb => ⟨by have := hownb b hb; omega, .inr (by have h5 := hownb b hb; have h6 := (hbel r' (List.mem_of_getElem? h1)).1; omega)⟩)
      have hg4 : Grow w w4 := grown_below (Grow.trans (hwi.grow hgr hB) hgC) (Nat.le_trans (hwi.grow hgr hB).size hgC.size) (houtC.own) hgS (by exact hgr4)
      have hS4 : S ≤ w4.heap.size := Nat.le_trans (Nat.le_trans hSr hwi.size) (Nat.le_trans hgC.size hgr4.size)
      clear hgr4 hown4 hblk4 hblk5 houtC hgC hbC hownrM hwi hblk hcm hinv hmarsh houts hownr hbr hgr hownb hszC
      go_wp2
      go_roundw
      case rel => exact ⟨j + 1, a', c', _, by omega, by go_num, rfl, by simp [hol], houts4, hb4, hownr4, hmarsh4, hg4, hS4⟩
      case measure => simp [intOf]; omega
    · obtain rfl : j = n := by omega
      rw [← hnl, List.take_length, hnl] at houts
      have e0 := fun w' (h : Grow wr.drew w') => (hbr.grow (grow_drew h)).cell 0 _ rfl
      have e1 := fun w' (h : Grow wr.drew w') => (hbr.grow (grow_drew h)).cell 1 _ rfl
      have e2 := fun w' (h : Grow wr.drew w') => (hbr.grow (grow_drew h)).cell 2 _ rfl
      go_wp2
      (refine wp_region_calmK 19 62 Tryz.mixed rfl (by kernel_rfl) (fun T hT => ?_); simp only [List.take_succ_cons, List.take_zero, List.drop_succ_cons, List.drop_zero] at hT ⊢)
      iterate 19 (apply calm_val (D' := []) (hD := rfl); (· intro wZ1 hwZ1; simp only [fillAll]; go_simp; exact ⟨rfl, Grow.refl _⟩); simp only [Act.put, List.setIfInBounds_toArray, List.set_cons_succ, List.set_cons_zero])
      (intro w5 hw5; simp only [fillAll]; refine hT _ _ ?_; clear hT T)
      have houts5 := houts.grow (grow_drew hw5)
      have hg5 := hgr.trans (grow_drew hw5)
      clear hw5 e0 e1 e2
      go_wp2
      go_returns
      have x1 : IntKind.i64.wrap (src : Int) = (src : Int) := by rw [IntKind.wrap_i64]; omega
      have x2 : IntKind.i64.wrap (dst : Int) = (dst : Int) := by rw [IntKind.wrap_i64]; omega
      exact ⟨oa, oc, by rw [hnl]; rw [x1, x2], by rw [hnl]; exact houts5.rds, hg5⟩
end Go.Proofs.YtdpmbchamefkmaaGreatDoor
