/-
A packet written: its header, each chunk marshalled and filled up, the checksum.
-/
import Derived.Test.YtdpmbchamefkmaaGreatDoorSpec9
import Derived.Test.YtdpmbchamefkmaaGreatDoorZZ0
namespace Go.Proofs.YtdpmbchamefkmaaGreatDoor
open Go.RowKit

/-- append of bytes to bytes of one's own, whatever else has turned -/
theorem wpl_appG {w : World} {ops : Array Oper} {rest : List Oper} {o : Oper} {a : Act} {Q : Exit → Act → World → Prop} (base : Nat) (l m : List UInt8) (M : Nat) (hM : M = l.length + m.length) (hgd : o.guard = none) (s x : Operand)
    (ho : o.op = .call { callee := .builtin .append, args := #[s, x], argTypes := #[28, 28] })
    (v : Value) (hs : a.eval s = v) (u : Value) (hx : a.eval x = u) (hown : OwnB w base v l) (hr : RdB w u m)
    (hbytes : l.length + m.length ≤ 140737488355328) (hb : base ≤ w.heap.size)
    (h : ∀ a' c' w', OwnB w' base (.slice a' M c') (l ++ m) → w.grownBy w' v.ownBlock → wpList Tryz.prog ops Q rest (a.put o.dst (.slice a' M c')) w') : wpList Tryz.prog ops Q (o :: rest) a w := by
  refine wpl_app hgd s x 28 ho base 5 (.int .u8 0) 1 1 Tryz.underlying28 Tryz.info5 rfl (by decide) v _ _ hs hown u _ _ hx hr (bc_one m) (by omega) hbytes hb fun v' w' h1 h2 => ?_
  have h3 : OwnB w' base v' (l ++ m) := by
    unfold OwnB
    rwa [bc_append, List.length_append]
  obtain ⟨a', c', rfl⟩ := own_form h3
  rw [List.length_append, ← hM] at h3 ⊢
  exact h a' c' w' h3 h2

theorem wpl_zerosG {w : World} {ops : Array Oper} {rest : List Oper} {o : Oper} {a : Act} {Q : Exit → Act → World → Prop} (base : Nat) (l : List UInt8) (k M : Nat) (hM : M = l.length + k) (hgd : o.guard = none) (s x : Operand)
    (ho : o.op = .call { callee := .builtin .append, args := #[s, x], argTypes := #[28, 3] })
    (v : Value) (hs : a.eval s = v) (hx : a.eval x = .int .i64 (k : Int)) (hown : OwnB w base v l)
    (hbytes : l.length + k ≤ 140737488355328) (hb : base ≤ w.heap.size)
    (h : ∀ a' c' w', OwnB w' base (.slice a' M c') (l ++ List.replicate k 0) → w.grownBy w' v.ownBlock → wpList Tryz.prog ops Q rest (a.put o.dst (.slice a' M c')) w') : wpList Tryz.prog ops Q (o :: rest) a w := by
  obtain ⟨i, hi1, hz, hsize, hby⟩ := info_parts Tryz.info5
  obtain ⟨v', w', hrun, h2, h3⟩ := run_app_zeros (P := Tryz.prog) (w := w) base 28 3 o.type 5 i (.int .u8 0) 1 .i64 .i64 Tryz.underlying28 Tryz.underlying3 hi1 hz hsize hby rfl rfl v _ _ hown k (by unfold maxLen; omega) (by omega) hb
  have h4 : OwnB w' base v' (l ++ List.replicate k 0) := by
    unfold OwnB
    rw [bc_append, bc_zeros, List.length_append, List.length_replicate]
    exact h2
  obtain ⟨a', c', rfl⟩ := own_form h4
  rw [List.length_append, List.length_replicate, ← hM] at h4 hrun
  exact Lib.wpList_append_run w hgd s x 28 3 ho v _ hs hx _ w' hrun (h a' c' w' h4 h3)

theorem body_mod (ls : List (List UInt8)) : (body ls).length % 4 = 0 := by
  induction ls with
  | nil => simp [body]
  | cons l ls ih =>
    have h1 : (padded l).length % 4 = 0 := by simp [padded, padN]; omega
    have h2 : (body (l :: ls)).length = (padded l).length + (body ls).length := by simp [body]
    omega

/-- the chunks from j on, and their row, as they were laid -/
structure Still (B S base : Nat) (rs : List (Nat × Nat)) (us : List Value) (ls : List (List UInt8)) (v : Value) (j : Nat) (w0 w : World) : Prop where
  own : w.ownsRow base 73 1 v us.length us
  each : ∀ m r u l, j ≤ m → rs[m]? = some r → us[m]? = some u → ls[m]? = some l → Marsh B r.1 r.2 w u l
  grow : Grow w0 w
  size : S ≤ w.heap.size

theorem Still.grown {B S base j : Nat} {rs : List (Nat × Nat)} {us : List Value} {ls : List (List UInt8)} {v x : Value} {lx : List UInt8} {w0 w w' : World} (h : Still B S base rs us ls v j w0 w) (hx : OwnB w S x lx) (hg : w.grownBy w' x.ownBlock)
    (hv : ∀ g, v.ownBlock = some g → g < S) (hr : ∀ r ∈ rs, r.2 ≤ S) (hB : B ≤ S) (h0 : w0.heap.size ≤ S) : Still B S base rs us ls v j w0 w' := by
  have hxb : ∀ b, x.ownBlock = some b → S ≤ b := fun b hb => (hx.lt b hb).1
  exact ⟨own_block h.own fun b hb => hg.block b (h.own.lt b hb).2 (by intro he; have h1 := hxb b he.symm; have h2 := hv b hb; omega),
    fun m r u l hm h1 h2 h3 => (h.each m r u l hm h1 h2 h3).kept (.of_grown hg fun b hb => ⟨Nat.le_trans hB (hxb b hb), .inr (Nat.le_trans (hr r (List.mem_of_getElem? h1)) (hxb b hb))⟩),
    grown_below h.grow h.grow.size hx h0 hg, Nat.le_trans h.size hg.size⟩

theorem Still.within {B S base j lo hi : Nat} {rs : List (Nat × Nat)} {us : List Value} {ls : List (List UInt8)} {v : Value} {w0 w w' : World} (h : Still B S base rs us ls v j w0 w) (hw : Within lo hi w w') (hB : B ≤ lo) (h0 : w0.heap.size ≤ B)
    (hv : ∀ g, v.ownBlock = some g → g < lo ∨ hi ≤ g) (hl : ∀ m r, j + 1 ≤ m → rs[m]? = some r → hi ≤ r.1) : Still B S base rs us ls v (j + 1) w0 w' :=
  ⟨own_block h.own fun b hb => hw.block b (h.own.lt b hb).2 (by have := hv b hb; omega),
    fun m r u l hm h1 h2 h3 => (h.each m r u l (by omega) h1 h2 h3).kept (hw.kept hB (.inl (hl m r hm h1))), hw.grow h.grow (Nat.le_trans h0 hB), Nat.le_trans h.size hw.size⟩

theorem hd_fill (src dst tag : Nat) : fill 12 ([] ++ be2 src ++ be2 dst ++ be4 tag) = hdB src dst tag 0 := by
  simp [fill, hdB, be2, be4, le4, zerosB]

set_option maxRecDepth 100000 in
set_option maxHeartbeats 8000000 in
theorem packMarshal_any (B pb base src dst tag : Nat) (va : Option Addr) (vc : Nat) (rs : List (Nat × Nat)) (us : List Value) (ls : List (List UInt8)) (w0 w : World) (hg0 : Grow w0 w) (hB : w0.heap.size ≤ B) (hBpb : B ≤ pb) (_ : pb < base)
    (hb : Blk w pb 70 [.int .u16 src, .int .u16 dst, .int .u32 tag, .slice va ls.length vc]) (hrow : Row B pb base w (.slice va ls.length vc) rs us ls) (hsrc : src < 65536) (hdst : dst < 65536) (htag : tag < 4294967296) (hlen : (body ls).length ≤ 1000000) (hnum : ls.length ≤ 100000) :
    Calls Tryz.prog 33 #[.pointer (some ⟨pb, 0, none⟩), .bool true] w fun e w' => ∃ oa oc, e = .returned (.tuple #[.slice oa (12 + (body ls).length) oc, .nilIface]) ∧ OwnB w' w.heap.size (.slice oa (12 + (body ls).length) oc) (packB src dst tag (sumOf src dst tag ls) ls) ∧ Grow w0 w' := by
  have hall := fun k hk => off_le ls k hk
  have hmod := fun k => body_mod (ls.take k)
  obtain ⟨L, hL⟩ : ∃ L, L = 12 + (body ls).length := ⟨_, rfl⟩
  have hpl0 : ∀ s, (packB src dst tag s ls).length = L := fun s => by rw [packB_length, hL]
  have hLb : L ≤ 1000012 := by omega
  have hL12 : 12 ≤ L := by omega
  rw [← hL] at hall ⊢
  obtain ⟨n, hn⟩ : ∃ n, n = us.length := ⟨_, rfl⟩
  have hnl : ls.length = n := by rw [hn]; exact hrow.chks.len2
  have hnr : rs.length = n := by rw [hn]; exact hrow.chks.len1
  rw [hnl] at hb hrow hnum
  have hownv := hrow.own
  have hbel := hrow.chks.below
  have hsep := hrow.chks.sep
  have hapart := hrow.apart
  have heach := hrow.chks.each
  obtain ⟨S, hS⟩ : ∃ S, S = w.heap.size := ⟨_, rfl⟩
  have hSl : S ≤ w.heap.size := by omega
  have hwS : w0.heap.size ≤ S := by rw [hS]; exact hg0.size
  have hrowS : ∀ g, (Value.slice va n vc).ownBlock = some g → base ≤ g ∧ g < S := by rw [hS]; exact fun g hg => hownv.lt g hg
  rw [← hS] at hbel ⊢
  have HN := Lib.hid hn
  have HL := Lib.hid hL
  have HS := Lib.hid hS
  clear hn hL hS
  go_enter Tryz.func33, Tryz.ntmps33
  go_wp2_with (refine wpl_makeB rfl _ _ rfl _ _ _ 12 rfl rfl rfl (by omega) ?_)
  intro g w1 hgl hbuf hg1
  have hgS : S ≤ g := by rw [HS.out]; exact hgl
  rw [← fill_nil] at hbuf
  go_wp2
  have hcut := cutbuf1 g 0 12 12 0 rfl (by omega) (by omega)
  have ec := fun w' (h : Grow w1.drew w') => (hb.grow (hg1.trans (grow_drew h))).cell 0 _ rfl
  (refine wp_region_calmK 7 74 Tryz.mixed rfl (by kernel_rfl) (fun T hT => ?_); simp only [List.take_succ_cons, List.take_zero, List.drop_succ_cons, List.drop_zero] at hT ⊢)
  iterate 7 (apply calm_val (D' := []) (hD := rfl); (· intro wZ1 hwZ1; simp only [fillAll]; go_simp; exact ⟨rfl, Grow.refl _⟩); simp only [Act.put, List.setIfInBounds_toArray, List.set_cons_succ, List.set_cons_zero])
  (intro w2 hwQ; simp only [fillAll]; refine hT _ _ ?_; clear hT T)
  have hbufQ := hbuf.grow (grow_drew hwQ)
  have hg2 := hg1.trans (grow_drew hwQ)
  clear hwQ ec hcut hbuf hg1
  go_wp2_with (go_loud (go_at_call 40; (with_reducible refine (fillP16 g 0 12 12 12 [] src w2 hbufQ (by omega) rfl (by omega) (by omega) (by omega)).mono ?_); rintro e w3 ⟨rfl, hbuf, hoR⟩))
  have hg3 := hoR.below hg2 hgl
  clear hbufQ hg2 hoR
  have hcut := cutbuf1 g 2 10 12 2 rfl (by omega) (by omega)
  have ec := fun w' (h : Grow w3.drew w') => (hb.grow (hg3.trans (grow_drew h))).cell 1 _ rfl
  (refine wp_region_calmK 7 74 Tryz.mixed rfl (by kernel_rfl) (fun T hT => ?_); simp only [List.take_succ_cons, List.take_zero, List.drop_succ_cons, List.drop_zero] at hT ⊢)
  iterate 7 (apply calm_val (D' := []) (hD := rfl); (· intro wZ1 hwZ1; simp only [fillAll]; go_simp; exact ⟨rfl, Grow.refl _⟩); simp only [Act.put, List.setIfInBounds_toArray, List.set_cons_succ, List.set_cons_zero])
  (intro w4 hwQ; simp only [fillAll]; refine hT _ _ ?_; clear hT T)
  have hbufQ := hbuf.grow (grow_drew hwQ)
  have hg4 := hg3.trans (grow_drew hwQ)
  clear hwQ ec hcut hbuf hg3
  go_wp2_with (go_loud (go_at_call 40; (with_reducible refine (fillP16 g 2 10 10 12 ([] ++ be2 src) dst w4 hbufQ (by omega) rfl (by omega) (by omega) (by omega)).mono ?_); rintro e w5 ⟨rfl, hbuf, hoR⟩))
  have hg5 := hoR.below hg4 hgl
  clear hbufQ hg4 hoR
  have hcut := cutbuf1 g 4 8 12 4 rfl (by omega) (by omega)
  have ec := fun w' (h : Grow w5.drew w') => (hb.grow (hg5.trans (grow_drew h))).cell 2 _ rfl
  (refine wp_region_calmK 7 74 Tryz.mixed rfl (by kernel_rfl) (fun T hT => ?_); simp only [List.take_succ_cons, List.take_zero, List.drop_succ_cons, List.drop_zero] at hT ⊢)
  iterate 7 (apply calm_val (D' := []) (hD := rfl); (· intro wZ1 hwZ1; simp only [fillAll]; go_simp; exact ⟨rfl, Grow.refl _⟩); simp only [Act.put, List.setIfInBounds_toArray, List.set_cons_succ, List.set_cons_zero])
  (intro w6 hwQ; simp only [fillAll]; refine hT _ _ ?_; clear hT T)
  have hbufQ := hbuf.grow (grow_drew hwQ)
  have hg6 := hg5.trans (grow_drew hwQ)
  clear hwQ ec hcut hbuf hg5
  go_upto_region 5 with (go_loud (go_at_call 41; (with_reducible refine (fillP32 g 4 8 8 12 ([] ++ be2 src ++ be2 dst) tag w6 hbufQ (by omega) rfl (by omega) (by omega) (by omega)).mono ?_); rintro e w7 ⟨rfl, hbuf, hoR⟩))
  have hg7 := hoR.below hg6 hgl
  rw [hd_fill] at hbuf
  have hown := OwnB.of_blk hbuf hgS (by rw [hdB_length]; omega)
  rw [hdB_length] at hown
  clear hbufQ hg6 hoR hbuf
  have k3 := (hb.grow hg7).cell 3 _ rfl
  go_wp2
  clear k3
  have hst : Still B S base rs us ls (.slice va n vc) 0 w0 w7 := ⟨own_grow hownv hg7, fun m r u l _ h1 h2 h3 => (heach m r u l h1 h2 h3).kept (.of_grow hg7), hg0.trans hg7, Nat.le_trans hSl hg7.size⟩
  have hBS : B ≤ S := by have := hb.lt; rw [HS.out]; omega
  have hbel2 : ∀ r ∈ rs, r.2 ≤ S := fun r hr => (hbel r hr).1
  have hrow2 : ∀ g, (Value.slice va n vc).ownBlock = some g → g < S := fun g hg => (hrowS g hg).2
  clear heach hownv hg7 hrow hrowS
  go_loopw [6, 42] (fun t i wr => ∃ (j : Nat) (ra : Option Addr) (m rc : Nat), j ≤ n ∧ i = .int .i64 j ∧ t = .slice ra m rc ∧ m = off ls j ∧ OwnB wr S (.slice ra m rc) (hdB src dst tag 0 ++ body (ls.take j)) ∧
    Still B S base rs us ls (.slice va n vc) j w0 wr) (fun _ i _ => n - (intOf i).toNat)
  case atStart => exact ⟨0, _, _, _, by omega, rfl, rfl, by rw [off_zero], by simpa [body] using hown, hst⟩
  case round =>
    clear hown hst
    obtain ⟨j, ra, m, rc, hj, rfl, rfl, hmo, hown, hst⟩ := hrel
    by_cases hlt : j < n
    · have hju : j < us.length := by rw [← HN.out]; exact hlt
      have hjl : j < ls.length := by rw [hnl]; exact hlt
      have hjr : j < rs.length := by rw [hnr]; exact hlt
      have hmj := hst.each j rs[j] us[j] ls[j] (Nat.le_refl _) (List.getElem?_eq_getElem hjr) (List.getElem?_eq_getElem hju) (List.getElem?_eq_getElem hjl)
      have hrj := hbel rs[j] (List.getElem_mem hjr)
      have hapj : ∀ g, (Value.slice va n vc).ownBlock = some g → g < rs[j].1 ∨ rs[j].2 ≤ g := fun g hg => hapart g hg rs[j] (List.getElem_mem hjr)
      have hsepj : ∀ m r, j + 1 ≤ m → rs[m]? = some r → rs[j].2 ≤ r.1 := fun m r hm hr => by
        obtain ⟨hm', rfl⟩ := List.getElem?_eq_some_iff.1 hr
        exact List.pairwise_iff_getElem.1 hsep j m hjr hm' (by omega)
      have hob := hall j hjl
      have hos := off_succ ls j hjl
      have hmd := hmod j
      have hpadl : (padded ls[j]).length = ls[j].length + padN ls[j].length := by simp [padded]
      have htk : ((hdB src dst tag 0 ++ body (ls.take j)) ++ ls[j]) ++ List.replicate (padN ls[j].length) 0 = hdB src dst tag 0 ++ body (ls.take (j + 1)) := by
        rw [List.take_add_one, List.getElem?_eq_getElem hjl]
        unfold body
        rw [List.map_append, List.flatten_append]
        simp [padded]
      have hdl : (hdB src dst tag 0 ++ body (ls.take j)).length = m := by rw [hmo]; simp [off, hdB_length]
      have hm4 : m % 4 = 0 := by
        have h1 := hdl
        rw [List.length_append, hdB_length] at h1
        omega
      have husj : us[j]? = some us[j] := List.getElem?_eq_getElem hju
      obtain ⟨r, hr⟩ : ∃ r, r = rs[j] := ⟨_, rfl⟩
      obtain ⟨u, hu⟩ : ∃ u, u = us[j] := ⟨_, rfl⟩
      obtain ⟨l, hl⟩ : ∃ l, l = ls[j] := ⟨_, rfl⟩
      rw [← hr, ← hu, ← hl] at hmj
      rw [← hr] at hrj hapj hsepj
      rw [← hl] at hob hos hpadl htk
      rw [← hu] at husj
      rw [← hmo] at hob hos
      obtain ⟨d0, hd0⟩ : ∃ d0, d0 = hdB src dst tag 0 ++ body (ls.take j) := ⟨_, rfl⟩
      rw [← hd0] at hown htk hdl
      clear hr hu hl hju hjl hjr hd0 hmo hmd
      obtain ⟨hB', hlo, hhi, T, p, f, rfl, hinv, hcm⟩ := hmj
      have hownN : wr.ownsRow base 73 1 (.slice va n vc) n us := by
        have := hst.own
        rwa [← HN.out] at this
      obtain ⟨g0, o0, c0, hv0, _, hcell0⟩ := Rd.at (Rd.of_own hownN) (by omega)
      have kj := hcell0 j _ husj
      simp only [Value.slice.injEq] at hv0
      obtain ⟨rfl, hv1, rfl⟩ := hv0
      clear hv1 hcell0 husj
      have hjI : (j : Int) < (n : Int) := by omega
      obtain ⟨N, hN⟩ : ∃ N, N = l.length := ⟨_, rfl⟩
      obtain ⟨P, hP⟩ : ∃ P, P = padN l.length := ⟨_, rfl⟩
      obtain ⟨M, hM⟩ : ∃ M, M = m + N := ⟨_, rfl⟩
      have hPl : P < 4 := by rw [hP]; exact padN_lt _
      have hML : M ≤ 1000012 := by omega
      have hNb : N ≤ 1000012 := by omega
      have hc39 : ∀ w, Calls Tryz.prog 39 #[.int .i64 (M : Int)] w fun e w' => e = .returned (.int .i64 (P : Int)) ∧ w = w' := fun w => by
        have := padding_any (M : Int) w (by omega)
        rw [show ((4 - (M : Int) % 4) % 4) = (P : Int) by rw [hP, hM, hN]; unfold padN; omega] at this
        exact this
      have hosM : off ls (j + 1) = M + P := by rw [hos, hpadl, hM, hN, hP, Nat.add_assoc]
      rw [← hP] at htk
      have hMd : M = d0.length + l.length := by rw [hdl, hM, hN]
      have hMP : M + P ≤ L := by rw [hpadl, ← hP, ← hN, ← Nat.add_assoc, ← hM] at hob; exact hob
      rw [← hN] at hcm
      have hNl : N = l.length := hN
      have HTK := Lib.hid htk
      have HOS := Lib.hid hosM
      have HMD := Lib.hid hMd
      have HNL := Lib.hid hNl
      clear htk hosM hMd hNl hN hP hM hos hpadl hob hm4 hdl
      have hownb : ∀ b, (Value.slice ra m rc).ownBlock = some b → S ≤ b ∧ b < wr.heap.size := fun b hb => hown.lt b hb
      by_cases hP0 : P = 0
      · have e0 : ((P : Int) != 0) = false := by simp [hP0]
        go_wp2_with (first | ((refine wpl_invoke rfl _ _ _ rfl (.iface T p) rfl f p (hinv _) _ (hcm wr (Kept.refl _ _ _ _)) ?_; rintro e wM ⟨gM, rfl, hgle, hblk, hwi⟩; refine ⟨_, rfl, ?_⟩; have hownM : OwnB wM S (.slice ra m rc) d0 := own_block hown fun b hb => hwi.block b (hownb b hb).2 (by have := hownb b hb; omega); have hrdM : RdB wM (.slice (some ⟨gM, 0, none⟩) N N) l := by (rw [HNL.out]; exact (OwnB.of_blk hblk (Nat.zero_le _) (by rw [← HNL.out]; omega)).rd))) | (refine wpl_appG S d0 l M HMD.out rfl _ _ rfl _ rfl _ rfl hownM hrdM (by rw [← HMD.out]; omega) (Nat.le_trans hst.size hwi.size) ?_; intro a' c' w4 hown4 hgr4) | (go_at_call 39; (with_reducible refine (hc39 _).mono ?_); rintro e w5 ⟨rfl, rfl⟩))
        have hst4 := (hst.within hwi hB' hB hapj hsepj).grown hownM hgr4 hrow2 hbel2 hBS hwS
        have ho4 : OwnB w4 S (.slice a' M c') (hdB src dst tag 0 ++ body (ls.take (j + 1))) := by rw [← HTK.out, hP0]; simpa using hown4
        clear hst hwi hown hownM hrdM hblk hown4 hgr4 hcm hinv
        go_roundw
        case rel => exact ⟨j + 1, a', M, c', by omega, by go_num, rfl, by rw [HOS.out, hP0, Nat.add_zero], ho4, hst4⟩
        case measure => simp [intOf]; omega
      · have e0 : ((P : Int) != 0) = true := by simp; omega
        go_wp2_with (first | ((refine wpl_invoke rfl _ _ _ rfl (.iface T p) rfl f p (hinv _) _ (hcm wr (Kept.refl _ _ _ _)) ?_; rintro e wM ⟨gM, rfl, hgle, hblk, hwi⟩; refine ⟨_, rfl, ?_⟩; have hownM : OwnB wM S (.slice ra m rc) d0 := own_block hown fun b hb => hwi.block b (hownb b hb).2 (by have := hownb b hb; omega); have hrdM : RdB wM (.slice (some ⟨gM, 0, none⟩) N N) l := by (rw [HNL.out]; exact (OwnB.of_blk hblk (Nat.zero_le _) (by rw [← HNL.out]; omega)).rd))) | (refine wpl_appG S d0 l M HMD.out rfl _ _ rfl _ rfl _ rfl hownM hrdM (by rw [← HMD.out]; omega) (Nat.le_trans hst.size hwi.size) ?_; intro a' c' w4 hown4 hgr4) | (go_at_call 39; (with_reducible refine (hc39 _).mono ?_); rintro e w5 ⟨rfl, rfl⟩) | (refine wpl_zerosG S (d0 ++ l) P (M + P) (by rw [List.length_append, ← HMD.out]) rfl _ _ rfl _ rfl rfl hown4 (by rw [List.length_append, ← HMD.out]; omega) (Nat.le_trans hst.size (Nat.le_trans hwi.size hgr4.size)) ?_; intro a2 c2 w6 hown6 hgr6))
        have hst6 := ((hst.within hwi hB' hB hapj hsepj).grown hownM hgr4 hrow2 hbel2 hBS hwS).grown hown4 hgr6 hrow2 hbel2 hBS hwS
        rw [HTK.out] at hown6
        clear hst hwi hown hownM hrdM hblk hown4 hgr4 hgr6 hcm hinv
        go_roundw
        case rel => exact ⟨j + 1, a2, M + P, c2, by omega, by go_num, by go_num, by rw [HOS.out], hown6, hst6⟩
        case measure => simp [intOf]; omega
    · obtain rfl : j = n := by omega
      rw [show ls.take j = ls by rw [← hnl, List.take_length]] at hown
      change OwnB wr S (.slice ra m rc) (packB src dst tag 0 ls) at hown
      have hmL : m = L := by rw [hmo, ← hnl, off_all, HL.out]
      subst hmL
      obtain ⟨g, rfl, hmx, hmc⟩ := own_some hown (by rw [hpl0]; omega)
      clear hmx
      have hgw := hst.grow
      have hsz := (own_lt hown).2
      have cl := fun w' (h : Grow wr.drew w') => checksum_any (.slice (some ⟨g, 0, none⟩) m rc) (packB src dst tag 0 ls) w' (hown.rd.grow (grow_drew h)) (by rw [hpl0]; omega) (by rw [hpl0]; omega)
      rw [← sumOf_is] at cl
      have hsum := sumOf_lt src dst tag ls
      have hcut := cutown g 8 (m - 8) m rc 8 rfl (by omega) (by omega) (by omega) hmc
      obtain ⟨x, hx⟩ : ∃ x, x = sumOf src dst tag ls := ⟨_, rfl⟩
      rw [← hx] at cl hsum
      have HX := Lib.hid hx
      clear hx hmo hst
      go_wp2
      (refine wp_region_calmK 5 74 Tryz.mixed rfl (by kernel_rfl) (fun T hT => ?_); simp only [List.take_succ_cons, List.take_zero, List.drop_succ_cons, List.drop_zero] at hT ⊢)
      iterate 4 (apply calm_val (D' := []) (hD := rfl); (· intro wZ1 hwZ1; simp only [fillAll]; go_simp; exact ⟨rfl, Grow.refl _⟩); simp only [Act.put, List.setIfInBounds_toArray, List.set_cons_succ, List.set_cons_zero])
      (apply calm_val (D' := []) (hD := rfl); (· intro wZ3 hwZ3; simp only [fillAll]; go_simp; refine ⟨Grow.refl _, (cl wZ3 hwZ3).mono ?_⟩; exact fun e wZ4 h => ⟨_, h.1, rfl, h.2⟩); simp only [Act.put, List.setIfInBounds_toArray, List.set_cons_succ, List.set_cons_zero])
      (intro w8 hw8; simp only [fillAll]; refine hT _ _ ?_; clear hT T)
      have ho8 := hown.grow (grow_drew hw8)
      have hg8 := hgw.trans (grow_drew hw8)
      clear hw8 cl hcut hown hgw
      go_wp2_with (go_loud (go_at_call 42; (with_reducible refine (leP32_any g m rc 8 (m - 8) _ (packB src dst tag 0 ls) S x w8 ho8 hsum (by rw [hpl0]; omega) (by omega)).mono ?_); rintro e w9 ⟨rfl, ho9, hon⟩))
      rw [pack_sum, HX.out] at ho9
      go_ret2
      exact ⟨_, rc, rfl, ho9, hon.below hg8 (by omega)⟩
end Go.Proofs.YtdpmbchamefkmaaGreatDoor
