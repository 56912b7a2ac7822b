/-
A packet taken apart, its texts copied.
-/
import Derived.Test.YtdpmbchamefkmaaGreatDoorZZ1
namespace Go.Proofs.YtdpmbchamefkmaaGreatDoor
open Go.RowKit

structure Outs2 (S : Nat) (w : World) (v : Value) (outs : List Value) (ls : List (List UInt8)) : Prop where
  own : w.ownsRow S 28 1 v outs.length outs
  len : ls.length = outs.length
  each : ∀ (i : Nat) (u : Value) (l : List UInt8), outs[i]? = some u → ls[i]? = some l → OwnB w S u l ∧ ∀ g, u.ownBlock = some g → v.ownBlock ≠ some g

theorem Outs2.nil (S : Nat) (w : World) : Outs2 S w (.slice none 0 0) [] [] := ⟨World.ownsRow_nil _ _ _ _, rfl, by simp⟩
theorem Outs2.grow {S : Nat} {w w' : World} {v : Value} {outs : List Value} {ls : List (List UInt8)} (h : Outs2 S w v outs ls) (hg : Grow w w') : Outs2 S w' v outs ls :=
  ⟨own_grow h.own hg, h.len, fun i u l h1 h2 => ⟨((h.each i u l h1 h2).1).grow hg, (h.each i u l h1 h2).2⟩⟩
theorem Outs2.rds {S : Nat} {w : World} {v : Value} {outs : List Value} {ls : List (List UInt8)} (h : Outs2 S w v outs ls) : RdBs w v ls := by
  refine ⟨outs, by rw [h.len]; exact Rd.of_own h.own, fun j l hl => ?_⟩
  have hj : j < outs.length := by rw [← h.len]; exact (List.getElem?_eq_some_iff.1 hl).1
  exact ⟨outs[j], List.getElem?_eq_getElem hj, (h.each j outs[j] l (List.getElem?_eq_getElem hj) hl).1.rd⟩
theorem Outs2.push {S : Nat} {w w2 : World} {v v' u : Value} {outs : List Value} {ls : List (List UInt8)} (h : Outs2 S w v outs ls) (hg : w.grownBy w2 v.ownBlock) (l : List UInt8)
    (hown : w2.ownsRow S 28 1 v' (outs.length + 1) (outs ++ [u])) (hblk : ∀ b, v'.ownBlock = some b → v.ownBlock = some b ∨ w.heap.size ≤ b) (hu : OwnB w S u l) (hne : ∀ g, u.ownBlock = some g → v.ownBlock ≠ some g) :
    Outs2 S w2 v' (outs ++ [u]) (ls ++ [l]) := by
  have hk : ∀ x m, OwnB w S x m → (∀ g, x.ownBlock = some g → v.ownBlock ≠ some g) → OwnB w2 S x m ∧ ∀ g, x.ownBlock = some g → v'.ownBlock ≠ some g := fun x m hx hn =>
    ⟨own_block hx fun g hxg => hg.block g (hx.lt g hxg).2 fun he => hn g hxg he.symm, fun g hxg he => by
      rcases hblk g he with h | h
      · exact hn g hxg h
      · have := (hx.lt g hxg).2; omega⟩
  refine ⟨by simpa using hown, by simp [h.len], fun i x m h1 h2 => ?_⟩
  rcases Nat.lt_or_ge i outs.length with hi | hi
  · rw [List.getElem?_append_left hi] at h1
    rw [List.getElem?_append_left (by rw [h.len]; exact hi)] at h2
    exact hk x m (h.each i x m h1 h2).1 (h.each i x m h1 h2).2
  · have hie : i = outs.length := by
      have := (List.getElem?_eq_some_iff.1 h1).1
      simp at this; omega
    subst hie
    rw [List.getElem?_append_right (Nat.le_refl _), Nat.sub_self] at h1
    rw [List.getElem?_append_right (by rw [h.len]; exact Nat.le_refl _), h.len, Nat.sub_self] at h2
    simp at h1 h2
    subst h1; subst h2
    exact hk u l hu hne

set_option maxRecDepth 100000 in
set_option maxHeartbeats 4000000 in
theorem implPacket_any (src dst tag sum : Nat) (check : Bool) (ls : List (List UInt8)) (v : Value) (w : World) (hv : RdB w v (packB src dst tag sum ls)) (hsrc : src < 65536) (hdst : dst < 65536) (htag : tag < 4294967296) (hsumlt : sum < 4294967296)
    (hsum : sum = Crc.crc (nats (bareB (packB src dst tag sum ls)))) (hfit : ∀ l ∈ ls, Fits l) (hlen : (body ls).length ≤ 1000000) (hnum : ls.length ≤ 100000) :
    Calls Tryz.prog 10 #[v, .bool check] w fun e w' => ∃ oa oc, e = .returned (.tuple #[.int .i64 src, .int .i64 dst, .int .u32 tag, .slice oa ls.length oc, .bool true]) ∧ RdBs w' (.slice oa ls.length oc) ls ∧ Grow w w' := by
  obtain ⟨ao, c, rfl⟩ := hv.form
  have hpl := packB_length src dst tag sum ls
  have hlen1 : ∀ l ∈ ls, l.length ≤ 1000000 := fun l hl => by
    obtain ⟨k, hk, rfl⟩ := List.mem_iff_getElem.1 hl
    have := off_le ls k hk
    simp only [padded, List.length_append] at this
    unfold off at this
    omega
  have hc23 := copied_any _ _ w hv (by omega)
  have hc22 := fun a1 c1 w1 (h : RdB w1 (.slice a1 (packB src dst tag sum ls).length c1) (packB src dst tag sum ls)) => zzPacket_any src dst tag sum check ls _ w1 h hsrc hdst htag hsumlt hsum hfit hlen hnum
  obtain ⟨n, hn⟩ : ∃ n, n = ls.length := ⟨_, rfl⟩
  obtain ⟨M, hM⟩ : ∃ M, M = (packB src dst tag sum ls).length := ⟨_, rfl⟩
  rw [← hn] at hc22 ⊢
  rw [← hM] at hc22 hc23 hv ⊢
  have hnb : n ≤ 100000 := by omega
  have HN := Lib.hid hn
  clear hsum hpl hn hM
  go_enter Tryz.func10, Tryz.ntmps10
  go_wp2_with (first | (go_at_call 23; (with_reducible refine hc23.mono ?_); rintro e w1 ⟨a1, c1, rfl, ho1, hg1⟩) | (go_at_call 22; (with_reducible refine (hc22 _ _ _ ho1.rd).mono ?_); rintro e w2 ⟨oa, oc, rfl, hrd2, hg2⟩))
  obtain ⟨S, hS⟩ : ∃ S, S = w2.heap.size := ⟨_, rfl⟩
  have hSl : S ≤ w2.heap.size := by omega
  have hwS : w2.heap.size ≤ S := by omega
  clear hS
  obtain ⟨vs, hrd, heach⟩ := hrd2
  rw [← HN.out] at hrd
  have hvl : vs.length = n := by have := hrd.1; omega
  go_loopw [14, 31] (fun out i wr => ∃ (j : Nat) (xa : Option Addr) (xc : Nat) (outs : List Value), j ≤ n ∧ i = .int .i64 j ∧ out = .slice xa j xc ∧ outs.length = j ∧ Outs2 S wr (.slice xa j xc) outs (ls.take j) ∧ Grow w2 wr) (fun _ i _ => n - (intOf i).toNat)
  case atStart => exact ⟨0, none, 0, [], by omega, rfl, rfl, rfl, Outs2.nil _ _, Grow.refl _⟩
  case round =>
    obtain ⟨j, xa, xc, outs, hj, rfl, rfl, hol, houts, hgr⟩ := hrel
    by_cases hlt : j < n
    · have hjl : j < ls.length := by rw [← HN.out]; exact hlt
      obtain ⟨u, hu, hru⟩ := heach j ls[j] (List.getElem?_eq_getElem hjl)
      have hll := hlen1 ls[j] (List.getElem_mem hjl)
      have htk : ls.take (j + 1) = ls.take j ++ [ls[j]] := by rw [List.take_add_one, List.getElem?_eq_getElem hjl]; rfl
      obtain ⟨l, hl⟩ : ∃ l, l = ls[j] := ⟨_, rfl⟩
      rw [← hl] at hru hll htk
      have HTK := Lib.hid htk
      clear htk hl hjl
      obtain ⟨ua, uc, rfl⟩ := hru.form
      obtain ⟨g0, o0, c0, hv0, _, hcell0⟩ := Rd.at hrd (by omega)
      have kj := cell_grow hgr (hcell0 j _ hu)
      simp only [Value.slice.injEq] at hv0
      obtain ⟨rfl, hv1, rfl⟩ := hv0
      clear hv1 hcell0
      have hjI : (j : Int) < (n : Int) := by omega
      have hc23 := copied_any _ _ wr (hru.grow hgr) (by omega)
      obtain ⟨N, hN⟩ : ∃ N, N = l.length := ⟨_, rfl⟩
      rw [← hN] at hc23 kj
      clear hN
      have hownb : ∀ b, (Value.slice xa j xc).ownBlock = some b → S ≤ b ∧ b < wr.heap.size := fun b hb => houts.own.lt b hb
      have hSr : S ≤ wr.heap.size := Nat.le_trans hSl hgr.size
      have hown0 := houts.own
      rw [hol] at hown0
      go_wp2_with (first | (go_at_call 23; (with_reducible refine hc23.mono ?_); rintro e wM ⟨a3, c3, rfl, ho3, hg3⟩) | (refine wpl_push rfl _ _ 31 rfl S 28 (.slice none 0 0) 24 Tryz.underlying31 Tryz.info28 rfl _ j outs rfl (own_grow hown0 (hg3.trans (grow_alloc _ _))) ⟨wM.heap.size, 0, none⟩ 1 (.slice a3 N c3) rfl ((Blk.new wM 28 [.slice a3 N c3]).cell 0 _ rfl) rfl ?_ ?_ ?_ ?_))
      · omega
      · omega
      · exact Nat.le_trans hSr (Nat.le_trans hg3.size (grow_alloc wM _).size)
      intro a' c' w4 hown4 hgr4 hblk4
      have hgC : Grow wM (wM.alloc (.cells #[.slice a3 N c3] 28)) := grow_alloc _ _
      have hszC : (wM.alloc (.cells #[.slice a3 N c3] 28)).heap.size ≤ wM.heap.size + 1 := by simp
      generalize wM.alloc (.cells #[.slice a3 N c3] 28) = wC at hgr4 hblk4 hgC hszC
      have hblk5 : ∀ b, (Value.slice a' (j + 1) c').ownBlock = some b → (Value.slice xa j xc).ownBlock = some b ∨ wC.heap.size ≤ b := by
        intro b hb
        rcases hblk4 with h | h
        · exact .inl (h ▸ hb)
        · rw [h] at hb; cases hb; exact .inr hszC
      have houtC := houts.grow (hg3.trans hgC)
      have houts4 := houtC.push hgr4 l (by rw [hol]; exact hown4) hblk5 ((ho3.grow hgC).mono hSr) (fun g hg he => by have h1 := ho3.lt g hg; have h2 := hownb g he; omega)
      rw [← HTK.out] at houts4
      have hg4 : Grow w2 w4 := grown_below ((hgr.trans hg3).trans hgC) (Nat.le_trans hgr.size (Nat.le_trans hg3.size hgC.size)) houtC.own hwS (by exact hgr4)
      clear hgr4 hown4 hblk4 hblk5 houtC hgC houts hownb hszC hgr hg3 ho3
      go_wp2
      go_roundw
      case rel => exact ⟨j + 1, a', c', _, by omega, by go_num, rfl, by simp [hol], houts4, hg4⟩
      case measure => simp [intOf]; omega
    · obtain rfl : j = n := by omega
      rw [HN.out, List.take_length, ← HN.out] at houts
      go_wp2
      go_returns
      exact ⟨xa, xc, rfl, houts.rds, (hg1.trans hg2).trans hgr⟩
end Go.Proofs.YtdpmbchamefkmaaGreatDoor
