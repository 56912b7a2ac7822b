/-
Bytes compared; the texts of all chunks.
-/
import Derived.Test.YtdpmbchamefkmaaGreatDoorLaw2
import Derived.Test.YtdpmbchamefkmaaGreatDoorZZ2
import Derived.Laws.IdiomStrings
import Derived.Laws.BytesArg
namespace Go.Proofs.YtdpmbchamefkmaaGreatDoor
open Go.RowKit

theorem Tryz.underlying9' : Tryz.prog.underlying 9 = some .string := by kernel_rfl
theorem Tryz.underlying5' : Tryz.prog.underlying 5 = some (.int .u8) := by kernel_rfl

theorem run_string {w : World} {v : Value} {l : List UInt8} (h : RdB w v l) : (convert 28 9 v).run Tryz.prog w = .ok (.string ⟨l.toArray⟩) w := by
  rcases h.2 with ⟨ao, c, rfl, hl, _⟩ | ⟨g, o, c, rfl, _, hcell⟩
  · obtain rfl := List.eq_nil_of_length_eq_zero hl
    cases ao with
    | none => exact run_convert_bytes_nil w 28 5 Tryz.underlying28 Tryz.underlying5' 0 c 9 Tryz.underlying9'
    | some a => exact run_convert_bytes_back w 28 9 5 a c [] Tryz.underlying28 Tryz.underlying5' Tryz.underlying9' (by simp)
  · refine run_convert_bytes_back w 28 9 5 ⟨g, o, none⟩ c l Tryz.underlying28 Tryz.underlying5' Tryz.underlying9' fun j hj => ?_
    have hadd : (⟨g, o, none⟩ : Addr).add j = ⟨g, o + j, none⟩ := by unfold Addr.add; split <;> simp_all
    rw [hadd]
    exact hcell j _ (bc_get l j _ (List.getElem?_eq_getElem hj))

set_option maxRecDepth 20000 in
set_option maxHeartbeats 1000000 in
theorem same_any (l : List UInt8) (v1 v2 : Value) (w : World) (h1 : RdB w v1 l) (h2 : RdB w v2 l) : Calls Tryz.prog 16 #[v1, v2] w fun e w' => e = .returned (.bool true) ∧ w = w' := by
  have q1 := run_string h1
  have q2 := run_string h2
  obtain ⟨a1, c1, rfl⟩ := h1.form
  obtain ⟨a2, c2, rfl⟩ := h2.form
  obtain ⟨N, hN⟩ : ∃ N, N = l.length := ⟨_, rfl⟩
  rw [← hN] at q1 q2 ⊢
  clear hN h1 h2
  go_enter Tryz.func16, Tryz.ntmps16
  go_wp2
  go_ret
  exact ⟨rfl, rfl⟩

/-- a chunk of user data's text -/
def datB (d : Dat) : List UInt8 := chunkB 0 (flagN d.un d.be d.en d.im) (dataB d.tsn d.sid.toNat d.seq.toNat d.ppi d.user)
theorem datB_length (d : Dat) : (datB d).length = 16 + d.user.length := by unfold datB; rw [chunkB_length, dataB_length]; omega

/-- two texts laid in a row -/
def Two (B : Nat) (s f : List UInt8) (u : Value) (w : World) : Prop := ∃ u1 u2, Rd w 1 u 2 [u1, u2] ∧ OwnB w B u1 s ∧ OwnB w B u2 f
theorem Two.stable (B : Nat) (s f : List UInt8) : Stable (Two B s f) := fun _ _ _ ⟨u1, u2, h1, h2, h3⟩ hg => ⟨u1, u2, h1.grow hg, h2.grow hg, h3.grow hg⟩

set_option maxRecDepth 100000 in
set_option maxHeartbeats 8000000 in
theorem texts_any (ds : List Dat) (da : Option Addr) (dc : Nat) (tsn win : Nat) (gs : List (Int × Int)) (dups : List Nat) (ga ta : Option Addr) (gc tc : Nat) (ftsn : Nat) (ss : List (Int × Int)) (sa : Option Addr) (sc : Nat) (w : World)
    (hr : RdD w (.slice da ds.length dc) ds) (stext ftext : List UInt8)
    (hc9 : ∀ w', Grow w w' → Calls Tryz.prog 9 #[.agg #[.int .u32 tsn, .int .u32 win, .slice ga gs.length gc, .slice ta dups.length tc]] w' (RetB w' stext.length stext))
    (hc29 : ∀ w', Grow w w' → Calls Tryz.prog 29 #[.agg #[.int .u32 ftsn, .slice sa ss.length sc]] w' (RetB w' ftext.length ftext))
    (hD : ds.length ≤ 4) (hok : ∀ d ∈ ds, DatOk d.sid d.seq d.user.length) :
    Calls Tryz.prog 15 #[.slice da ds.length dc, .agg #[.int .u32 tsn, .int .u32 win, .slice ga gs.length gc, .slice ta dups.length tc], .agg #[.int .u32 ftsn, .slice sa ss.length sc]] w
      fun e w' => ∃ oa oc, e = .returned (.slice oa (ds.length + 2) oc) ∧ RdBs w' (.slice oa (ds.length + 2) oc) (ds.map datB ++ [stext, ftext]) ∧ Grow w w' := by
  obtain ⟨n, hn⟩ : ∃ n, n = ds.length := ⟨_, rfl⟩
  obtain ⟨G, hG⟩ : ∃ G, G = gs.length := ⟨_, rfl⟩
  obtain ⟨T, hT⟩ : ∃ T, T = dups.length := ⟨_, rfl⟩
  obtain ⟨S', hS'⟩ : ∃ S, S = ss.length := ⟨_, rfl⟩
  obtain ⟨hrd, hall⟩ := hr
  rw [← hn] at hrd hD ⊢
  rw [← hG, ← hT] at hc9 ⊢
  rw [← hS'] at hc29 ⊢
  have HN := Lib.hid hn
  clear hn hG hT hS'
  go_enter Tryz.func15, Tryz.ntmps15
  go_upto_region 1 with fail
  have hbx := Blk.new w 26 [.int .u32 tsn, .int .u32 win, .slice ga G gc, .slice ta T tc]
  have hby := Blk.new (w.alloc (.cells #[.int .u32 tsn, .int .u32 win, .slice ga G gc, .slice ta T tc] 26)) 37 [.int .u32 ftsn, .slice sa S' sc]
  have hbx := hbx.alloc (.cells #[.int .u32 ftsn, .slice sa S' sc] 37)
  obtain ⟨x, hx⟩ : ∃ x, x = w.heap.size := ⟨_, rfl⟩
  have hsz : ∀ o : Obj, (w.alloc o).heap.size = w.heap.size + 1 := fun o => by simp
  rw [hsz] at hby
  clear hsz
  rw [← hx] at hbx hby ⊢
  refine wp_at (fun w' => Blk w' x 26 [.int .u32 tsn, .int .u32 win, .slice ga G gc, .slice ta T tc] ∧ Blk w' (x + 1) 37 [.int .u32 ftsn, .slice sa S' sc] ∧ Grow w w') ⟨hbx, hby, (grow_alloc _ _).trans (grow_alloc _ _)⟩ ?_
  clear hbx hby hx
  rintro w0 ⟨hbx, hby, hg0⟩
  go_upto_region 2 with fail
  have hemp := own_empty w0 28 1
  have hg1 := grow_alloc w0 (.cells #[] 28)
  obtain ⟨eb, heb⟩ : ∃ b, b = w0.heap.size := ⟨_, rfl⟩
  rw [← heb] at hemp ⊢
  have hwe : w.heap.size ≤ eb := by have := hg0.size; omega
  have hxe : x + 1 < eb := by have := hby.lt; omega
  refine wp_at (fun w' => w'.ownsRow eb 28 1 (.slice (some ⟨eb, 0, none⟩) 0 0) 0 [] ∧ Grow w0 w') ⟨hemp, hg1⟩ ?_
  clear hemp hg1 heb
  rintro w1 ⟨hemp, hg01⟩
  have hg1 := hg0.trans hg01
  have hbx1 := hbx.grow hg01
  have hby1 := hby.grow hg01
  clear hbx hby hg0 hg01
  have hout0 : Outs2 eb w1 (.slice (some ⟨eb, 0, none⟩) 0 0) [] [] := ⟨hemp, rfl, by simp⟩
  have hel : eb ≤ w1.heap.size := by
    rcases Nat.lt_or_ge w1.heap.size eb with h | h
    · have := (hemp.lt eb rfl).2; omega
    · exact h
  clear hemp
  go_wp2
  go_loopw [7, 13] (fun t i wr => ∃ (k : Nat) (xa : Option Addr) (xc : Nat) (outs : List Value), k ≤ n ∧ i = .int .i64 k ∧ t = .slice xa k xc ∧ outs.length = k ∧ Outs2 eb wr (.slice xa k xc) outs ((ds.take k).map datB) ∧ Grow w wr ∧ eb ≤ wr.heap.size ∧ Blk wr x 26 [.int .u32 tsn, .int .u32 win, .slice ga G gc, .slice ta T tc] ∧ Blk wr (x + 1) 37 [.int .u32 ftsn, .slice sa S' sc]) (fun _ i _ => n - (intOf i).toNat)
  case atStart => exact ⟨0, _, _, [], by omega, rfl, rfl, rfl, by simpa using hout0, hg1, hel, hbx1, hby1⟩
  case round =>
    clear hout0 hbx1 hby1 hg1 hel
    obtain ⟨k, xa, xc, outs, hk, rfl, rfl, hol, houts, hgr, hSr, hbxr, hbyr⟩ := hrel
    by_cases hlt : k < n
    · have hkd : k < ds.length := by rw [← HN.out]; exact hlt
      have hmem : ds[k] ∈ ds := List.getElem_mem hkd
      obtain ⟨hru, htl, hpl⟩ := hall _ hmem
      have hdo := hok _ hmem
      obtain ⟨g0, o0, c0, hv0, _, hcell0⟩ := Rd.at hrd (by omega)
      obtain ⟨q0, q1, q2, q3, q4, q5, q6, q7, q8⟩ := dat_cells ds k hkd (fun j u hu => cell_grow hgr (hcell0 j u hu))
      rw [Nat.mul_comm 9 k] at q0 q1 q2 q3 q4 q5 q6 q7 q8
      simp only [Value.slice.injEq] at hv0
      obtain ⟨rfl, hv1, rfl⟩ := hv0
      have htk : (ds.take (k + 1)).map datB = (ds.take k).map datB ++ [datB ds[k]] := by rw [List.take_add_one, List.getElem?_eq_getElem hkd, List.map_append]; rfl
      obtain ⟨d, hde⟩ : ∃ d, d = ds[k] := ⟨_, rfl⟩
      rw [← hde] at q0 q1 q2 q3 q4 q5 q6 q7 q8 htk hru htl hpl hdo
      obtain ⟨sn, hsn⟩ : ∃ m, m = d.sid.toNat := ⟨_, rfl⟩
      obtain ⟨qn, hqn⟩ : ∃ m, m = d.seq.toNat := ⟨_, rfl⟩
      have e1 : d.sid = (sn : Int) := by have := hdo.1; omega
      have e2 : d.seq = (qn : Int) := by have := hdo.2.2.1; omega
      rw [e1] at q5
      rw [e2] at q6
      have hU5 : d.user.length ≤ 5000 := by have := hdo.2.2.2.2.2; omega
      have hc28 : ∀ w', Grow wr w' → Calls Tryz.prog 28 #[.agg #[.bool d.un, .bool d.be, .bool d.en, .bool d.im, .int .u32 (d.tsn : Nat), .int .i64 (sn : Int), .int .i64 (qn : Int), .int .u32 (d.ppi : Nat), .slice d.ua d.user.length d.uc]] w' (RetB w' (datB d).length (datB d)) := fun w' h => by
        have := specData_any d.un d.be d.en d.im d.tsn sn qn d.ppi d.user d.ua d.uc w' (hru.grow (hgr.trans h)) htl hpl hU5
        rw [hsn, hqn] at this ⊢
        unfold datB
        rw [chunkB_length]
        exact this
      have hlen := datB_length d
      obtain ⟨text, hte⟩ : ∃ t, t = datB d := ⟨_, rfl⟩
      obtain ⟨N, hN⟩ : ∃ N, N = text.length := ⟨_, rfl⟩
      rw [← hte] at hc28 htk hlen
      rw [← hN] at hc28 hlen
      obtain ⟨U, hU⟩ : ∃ U, U = d.user.length := ⟨_, rfl⟩
      rw [← hU] at q8 hc28 hU5 hlen
      have hNb : N ≤ 6000 := by omega
      have HTK := Lib.hid htk
      have hkI : (k : Int) < (n : Int) := by omega
      clear hv1 hcell0 hde hsn hqn e1 e2 hte hN hU htk hdo hru htl hpl hmem hkd hlen
      have hownb : ∀ b, (Value.slice xa k xc).ownBlock = some b → eb ≤ b ∧ b < wr.heap.size := fun b hb => houts.own.lt b hb
      have hown0 := houts.own
      rw [hol] at hown0
      go_upto_region 5 with fail
      have hbn := Blk.new wr 59 [.bool d.un, .bool d.be, .bool d.en, .bool d.im, .int .u32 (d.tsn : Nat), .int .i64 (sn : Int), .int .i64 (qn : Int), .int .u32 (d.ppi : Nat), .slice d.ua U d.uc]
      obtain ⟨h, hh⟩ : ∃ h, h = wr.heap.size := ⟨_, rfl⟩
      rw [← hh] at hbn ⊢
      refine wp_at (fun w' => Blk w' h 59 [.bool d.un, .bool d.be, .bool d.en, .bool d.im, .int .u32 (d.tsn : Nat), .int .i64 (sn : Int), .int .i64 (qn : Int), .int .u32 (d.ppi : Nat), .slice d.ua U d.uc] ∧ Grow wr w') ⟨hbn, grow_alloc _ _⟩ ?_
      clear hbn hh q0 q1 q2 q3 q4 q5 q6 q7 q8
      rintro wA ⟨hbA, hgA⟩
      have q0 := hbA.cell 0 _ rfl
      have q1 := hbA.cell 1 _ rfl
      have q2 := hbA.cell 2 _ rfl
      have q3 := hbA.cell 3 _ rfl
      have q4 := hbA.cell 4 _ rfl
      have q5 := hbA.cell 5 _ rfl
      have q6 := hbA.cell 6 _ rfl
      have q7 := hbA.cell 7 _ rfl
      have q8 := hbA.cell 8 _ rfl
      have hc28 := hc28 wA hgA
      go_wp2_with (first | (go_at_call 28; (with_reducible refine hc28.mono ?_); rintro e wM ⟨a3, c3, rfl, ho3, hg3⟩) | (refine wpl_push rfl _ _ 31 rfl eb 28 (.slice none 0 0) 24 Tryz.underlying31 Tryz.info28 rfl _ k outs rfl (own_grow hown0 ((hgA.trans hg3).trans (grow_alloc _ _))) ⟨wM.heap.size, 0, none⟩ 1 (.slice a3 N c3) rfl ((Blk.new wM 28 [.slice a3 N c3]).cell 0 _ rfl) rfl ?_ ?_ ?_ ?_))
      · omega
      · omega
      · exact Nat.le_trans hSr (Nat.le_trans hgA.size (Nat.le_trans hg3.size (grow_alloc wM _).size))
      intro a' c' w4 hown4 hgr4 hblk4
      have hgC : Grow wM (wM.alloc (.cells #[.slice a3 N c3] 28)) := grow_alloc _ _
      have hszC : (wM.alloc (.cells #[.slice a3 N c3] 28)).heap.size ≤ wM.heap.size + 1 := by simp
      generalize wM.alloc (.cells #[.slice a3 N c3] 28) = wC at hgr4 hblk4 hgC hszC
      have hblk5 : ∀ b, (Value.slice a' (k + 1) c').ownBlock = some b → (Value.slice xa k xc).ownBlock = some b ∨ wC.heap.size ≤ b := by
        intro b hb
        rcases hblk4 with h' | h'
        · exact .inl (h' ▸ hb)
        · rw [h'] at hb; cases hb; exact .inr hszC
      have hg3' := hgA.trans hg3
      have houtC := houts.grow (hg3'.trans hgC)
      have houts4 := houtC.push hgr4 text (by rw [hol]; exact hown4) hblk5 ((ho3.grow hgC).mono (Nat.le_trans hSr hgA.size)) (fun g hg he => by have h1 := ho3.lt g hg; have h2 := hownb g he; have h3 := hgA.size; omega)
      rw [← HTK.out] at houts4
      have hg4 : Grow w w4 := grown_below ((hgr.trans hg3').trans hgC) (Nat.le_trans hgr.size (Nat.le_trans hg3'.size hgC.size)) houtC.own hwe (by exact hgr4)
      have hS4 : eb ≤ w4.heap.size := Nat.le_trans hSr (Nat.le_trans hg3'.size (Nat.le_trans hgC.size hgr4.size))
      have hx4 := blk_grown (hbxr.grow (hg3'.trans hgC)) hgr4 (by intro he; have := hownb x he; omega)
      have hy4 := blk_grown (hbyr.grow (hg3'.trans hgC)) hgr4 (by intro he; have := hownb (x + 1) he; omega)
      clear hgr4 hown4 hblk4 hblk5 houtC hgC houts hownb hszC hgr hg3 hg3' hgA ho3 hbxr hbyr q0 q1 q2 q3 q4 q5 q6 q7 q8 hbA
      go_wp2
      go_roundw
      case rel => exact ⟨k + 1, a', c', _, by omega, by go_num, rfl, by simp [hol], houts4, hg4, hS4, hx4, hy4⟩
      case measure => simp [intOf]; omega
    · obtain rfl : k = n := by omega
      rw [show ds.take k = ds by rw [HN.out, List.take_length]] at houts
      have x0 := fun w' (h : Grow wr.drew w') => (hbxr.grow (grow_drew h)).cell 0 _ rfl
      have x1 := fun w' (h : Grow wr.drew w') => (hbxr.grow (grow_drew h)).cell 1 _ rfl
      have x2 := fun w' (h : Grow wr.drew w') => (hbxr.grow (grow_drew h)).cell 2 _ rfl
      have x3 := fun w' (h : Grow wr.drew w') => (hbxr.grow (grow_drew h)).cell 3 _ rfl
      have y0 := fun w' (h : Grow wr.drew w') => (hbyr.grow (grow_drew h)).cell 0 _ rfl
      have y1 := fun w' (h : Grow wr.drew w') => (hbyr.grow (grow_drew h)).cell 1 _ rfl
      obtain ⟨Ns, hNs⟩ : ∃ N, N = stext.length := ⟨_, rfl⟩
      obtain ⟨Nf, hNf⟩ : ∃ N, N = ftext.length := ⟨_, rfl⟩
      rw [← hNs] at hc9
      rw [← hNf] at hc29
      clear hNs hNf
      go_wp2
      (refine wp_region_calmK 6 30 Tryz.mixed rfl (by kernel_rfl) (fun T' hT => ?_); simp only [List.take_succ_cons, List.take_zero, List.drop_succ_cons, List.drop_zero] at hT ⊢)
      iterate 2 (apply calm_val (D' := []) (hD := rfl); (· intro wZ1 hwZ1; simp only [fillAll]; go_simp; exact ⟨rfl, Grow.refl _⟩); simp only [Act.put, List.setIfInBounds_toArray, List.set_cons_succ, List.set_cons_zero])
      refine calm_new [] (fun u w' => OwnB w' wr.heap.size u stext) 25 rfl rfl (OwnB.stable _ _) (fun w1 hw1 => ?_) ?_
      · simp only [fillAll]
        go_simp
        refine ⟨Grow.refl _, (hc9 w1 (hgr.trans (grow_drew hw1))).mono ?_⟩
        rintro e w2 ⟨a3, c3, rfl, ho2, hb2⟩
        exact ⟨_, rfl, ho2.mono (grow_drew hw1).size, hb2⟩
      (apply calm_val (D' := []) (hD := rfl); (· intro wZ1 hwZ1; simp only [fillAll]; go_simp; exact ⟨rfl, Grow.refl _⟩); simp only [Act.put, List.setIfInBounds_toArray, List.set_cons_succ, List.set_cons_zero])
      refine calm_new [] (fun u w' => OwnB w' wr.heap.size u ftext) 27 rfl rfl (OwnB.stable _ _) (fun w1 hw1 => ?_) ?_
      · simp only [fillAll]
        go_simp
        refine ⟨Grow.refl _, (hc29 w1 (hgr.trans (grow_drew hw1))).mono ?_⟩
        rintro e w2 ⟨a3, c3, rfl, ho2, hb2⟩
        exact ⟨_, rfl, ho2.mono (grow_drew hw1).size, hb2⟩
      refine calm_new [(27, fun u w' => OwnB w' wr.heap.size u ftext), (25, fun u w' => OwnB w' wr.heap.size u stext)] (Two wr.heap.size stext ftext) 28 rfl rfl (Two.stable _ _ _) (fun w1 hw1 => ?_) ?_
      · simp only [fillAll]
        intro u27 (h27 : OwnB w1 wr.heap.size u27 ftext) u25 (h25 : OwnB w1 wr.heap.size u25 stext)
        obtain ⟨a27, c27, he27⟩ := OwnB.form h27
        obtain ⟨a25, c25, he25⟩ := OwnB.form h25
        rw [he27] at h27 ⊢
        rw [he25] at h25 ⊢
        clear he27 he25
        simp only [Act.put, List.setIfInBounds_toArray, List.set_cons_succ, List.set_cons_zero]
        go_simp
        exact ⟨⟨_, _, Rd.lit (heap_alloc_new w1 _) 1 2 rfl, h25.grow (grow_alloc _ _), h27.grow (grow_alloc _ _)⟩, grow_alloc _ _⟩
      intro w5 hw5
      simp only [fillAll]
      intro u28 h28 u27 h27 u25 h25
      clear h27 h25
      obtain ⟨y1', y2', hrd2, hoy1, hoy2⟩ := h28
      obtain ⟨a28, c28, rfl⟩ := hrd2.form
      simp only [Act.put, List.setIfInBounds_toArray, List.set_cons_succ, List.set_cons_zero]
      refine hT _ _ ?_
      clear hT T' x0 x1 x2 x3 y0 y1
      have houts5 := houts.grow (grow_drew hw5)
      have hg5 := hgr.trans (grow_drew hw5)
      have hsz5 := (grow_drew hw5).size
      have hown5 := houts5.own
      rw [hol] at hown5
      have hrb : ∀ b, (Value.slice xa k xc).ownBlock = some b → b < wr.heap.size := fun b hb => (houts.own.lt b hb).2
      clear hw5
      go_wp2_with (refine wpl_app rfl _ _ 31 rfl eb 28 (.slice none 0 0) 1 24 Tryz.underlying31 Tryz.info28 rfl (by decide) (.slice xa k xc) k outs rfl hown5 _ 2 [y1', y2'] rfl hrd2 ?_ (by omega) (by omega) (Nat.le_trans hSr hsz5) ?_)
      · intro y hy
        obtain ⟨a1, c1, rfl⟩ := OwnB.form hoy1
        obtain ⟨a2, c2, rfl⟩ := OwnB.form hoy2
        simp at hy
        rcases hy with rfl | rfl <;> rfl
      intro v6 w6 hown6 hgr6
      obtain ⟨a6, c6, rfl⟩ := own_form hown6
      go_wp2
      go_ret
      have hk1 : OwnB w6 wr.heap.size y1' stext := (own_block hoy1 fun g hg => hgr6.block g (hoy1.lt g hg).2 (by intro he; have := hrb g he.symm; have := (hoy1.lt g hg).1; omega))
      have hk2 : OwnB w6 wr.heap.size y2' ftext := (own_block hoy2 fun g hg => hgr6.block g (hoy2.lt g hg).2 (by intro he; have := hrb g he.symm; have := (hoy2.lt g hg).1; omega))
      have hlen : (ds.map datB).length = k := by rw [List.length_map, ← HN.out]
      refine ⟨a6, c6, rfl, ⟨outs ++ [y1', y2'], by rw [List.length_append, hlen]; exact Rd.of_own hown6, fun j l hj => ?_⟩, grown_below hg5 hg5.size hown5 hwe hgr6⟩
      rcases Nat.lt_or_ge j k with hjk | hjk
      · rw [List.getElem?_append_left (by rw [hlen]; exact hjk)] at hj
        have hjo : j < outs.length := by rw [hol]; exact hjk
        refine ⟨outs[j], by rw [List.getElem?_append_left hjo]; exact List.getElem?_eq_getElem hjo, ?_⟩
        obtain ⟨h1, h2⟩ := houts5.each j outs[j] l (List.getElem?_eq_getElem hjo) hj
        have h3 : OwnB w6 eb outs[j] l := own_block h1 fun g hg => hgr6.block g (h1.lt g hg).2 (by intro he; exact h2 g hg he.symm)
        exact h3.rd
      · rw [List.getElem?_append_right (by rw [hlen]; exact hjk), hlen] at hj
        rw [List.getElem?_append_right (by rw [hol]; exact hjk), hol]
        match hjm : j - k with
        | 0 => rw [hjm] at hj; simp at hj; subst hj; exact ⟨_, rfl, hk1.rd⟩
        | 1 => rw [hjm] at hj; simp at hj; subst hj; exact ⟨_, rfl, hk2.rd⟩
        | m + 2 => rw [hjm] at hj; simp at hj
end Go.Proofs.YtdpmbchamefkmaaGreatDoor
