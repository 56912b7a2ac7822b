/-
The reference: filled up, copied, a chunk, a packet's checksum.
-/
import Derived.Test.YtdpmbchamefkmaaGreatDoorSpec3
namespace Go.Proofs.YtdpmbchamefkmaaGreatDoor
open Go.RowKit

section
variable {P : Program} {w : World}

/-- append(v, make([]byte, k)...) -/
theorem run_app_zeros (base : Nat) (t tn ty e : TypeId) (i : TypeInfo) (z : Value) (bytes : Nat) (kn kx : IntKind) (ht : P.underlying t = some (.slice e)) (htn : P.underlying tn = some (.int kn)) (hi : P.info? e = some i) (hz : i.zero = some z)
    (hsize : i.size = 1) (hby : i.bytes = bytes) (hzs : z.cells = #[z]) (hz1 : z.oneCell' = true)
    (v : Value) (n : Nat) (xs : List Value) (hown : w.ownsRow base e 1 v n xs) (k : Nat)
    (h63 : n + k ≤ maxLen) (hbytes : (n + k) * bytes ≤ 140737488355328) (hbase : base ≤ w.heap.size) :
    ∃ v' w', (Builtin.append_ #[t, tn] ty #[v, .int kx (k : Int)]).run P w = .ok v' w' ∧ w'.ownsRow base e 1 v' (n + k) (xs ++ List.replicate k z) ∧ w.grownBy w' v.ownBlock := by
  have hsmall : n + k ≤ 9223372036854775807 := by simp only [maxLen] at h63; omega
  have hw : IntKind.i64.wrap (k : Int) = k := by rw [IntKind.wrap_i64]; omega
  have hneg : ¬ ((k : Int) < 0) := by omega
  have hkb : k * bytes ≤ 140737488355328 := Nat.le_trans (Nat.mul_le_mul_right _ (by omega)) hbytes
  have h48i : ¬ (281474976710656 < (k : Int) * (i.bytes : Int)) := by
    rw [hby, ← Int.natCast_mul]; omega
  have hlen : (xs ++ List.replicate k z).length = (n + k) * 1 := by rw [List.length_append, hown.1, List.length_replicate]; omega
  have hzc : ∀ m, Builtin.zeroCells #[z] m = (List.replicate m z).toArray := by
    intro m
    apply Array.ext
    · simp [Builtin.zeroCells]
    · intro j h1 h2
      simp [Builtin.zeroCells, Nat.mod_one]
  have hst : ∀ g cur, w.heap[g]? = some (.cells cur e (0, 0)) → n + k ≤ cur.size → (storeCells ((⟨g, 0, none⟩ : Addr).add n) (List.replicate k z)).run P w =
      .ok () (w.setRow g (cur.toList.take n ++ List.replicate k z ++ cur.toList.drop (n + k)).toArray) := by
    intro g cur hg hfit
    have := run_storeCells_at P g n e (List.replicate k z) 0 cur w hg (by simpa using hfit) (by intro u hu; rw [List.eq_of_mem_replicate hu]; exact hz1)
    simpa [Addr.add_lit] using this
  have hnew : ∀ (old : Nat), old < n + k → ∀ (row : Option Nat) (cs : Array Value), cs.toList = xs ++ List.replicate k z →
      (w.drew.alloc (.cells (cs ++ Builtin.zeroCells #[z] (grownCap w (n + k) old e - (n + k))) e)).ownsRow base e 1
        (.slice (some ⟨w.heap.size, 0, none⟩) (n + k) (grownCap w (n + k) old e)) (n + k) (xs ++ List.replicate k z) ∧
      w.grownBy (w.drew.alloc (.cells (cs ++ Builtin.zeroCells #[z] (grownCap w (n + k) old e - (n + k))) e)) row := by
    intro old ho row cs hcs
    have hge := grownCap_ge w (n + k) old e
    have hcm : grownCap w (n + k) old e ≤ maxLen := grownCap_le_maxLen w (n + k) old e h63
    have hsz : cs.size = n + k := by rw [← Array.length_toList, hcs, hlen, Nat.mul_one]
    refine ⟨⟨hlen, .inr ⟨w.heap.size, _, _, rfl, hbase, heap_alloc_new w.drew _, hge, hcm, ?_, ?_⟩⟩, ⟨rfl, rfl, rfl, by simp, fun j hj _ => heap_alloc_old w.drew _ hj⟩⟩
    · rw [Array.size_append, hsz, hzc]
      simp
      omega
    · rw [Array.toList_append, hcs, ← hlen]
      exact List.take_left
  rcases hown.2 with ⟨rfl, rfl⟩ | ⟨g, cap, cur, rfl, hbg, hg, hnc, hcm, hcs, htake⟩
  · have hx : xs = [] := List.eq_nil_of_length_eq_zero (by simpa using hown.1)
    subst hx
    by_cases hk : k = 0
    · subst hk
      refine ⟨.slice none 0 0, w, ?_, by simpa using hown, World.grownBy.refl _ _⟩
      simp [Builtin.append_, run_underlying ht, run_underlying htn, sizeOf, typeInfo, hi, asInt, asIntOf, IntKind.wrap_i64]
    · have hr := Lib.run_append_nil_zeros (P := P) w t tn ty e i z kx kn ht htn hi hz k (by omega) (by omega) (by omega) (by rw [hby]; omega)
      rw [hzs] at hr
      have hgr := hnew 0 (by omega) (Value.ownBlock (.slice none 0 0)) (Builtin.zeroCells #[z] k) (by rw [hzc]; simp)
      simp only [Nat.zero_add] at hgr ⊢
      exact ⟨_, _, hr, hgr.1, hgr.2⟩
  · by_cases hroom : n + k ≤ cap
    · have hfit : n + k ≤ cur.size := by rw [hcs]; omega
      have hs := hst g cur hg hfit
      refine ⟨.slice (some ⟨g, 0, none⟩) (n + k) cap, w.setRow g (cur.toList.take n ++ List.replicate k z ++ cur.toList.drop (n + k)).toArray, ?_,
        ⟨hlen, .inr ⟨g, cap, _, rfl, hbg, setRow_heap w g cur _ e _ hg, hroom, hcm, ?_, ?_⟩⟩, ⟨rfl, rfl, rfl, by simp, fun j _ hj => setRow_other w g j _ (fun e => hj (by simp [Value.ownBlock, e]))⟩⟩
      · by_cases hk : k = 0
        · subst hk
          have hs0 : w.setRow g (cur.toList.take n ++ List.replicate 0 z ++ cur.toList.drop (n + 0)).toArray = w := by
            simp only [List.replicate_zero, List.append_nil, Nat.add_zero, List.take_append_drop, Array.toArray_toList]
            exact setRow_self w g cur e (0, 0) hg
          rw [hs0]
          simp [Builtin.append_, run_underlying ht, run_underlying htn, sizeOf, typeInfo, hi, asInt, asIntOf, IntKind.wrap_i64, hnc, storeCells]
        · have hkz : ¬ (k * i.size = 0) := by rw [hsize]; omega
          simp only [hsize] at hkz
          have hs' := hs
          simp [Builtin.append_, run_underlying ht, run_underlying htn, sizeOf, typeInfo, zeroValue, hi, hz, asInt, asIntOf, hw, hneg, h48i, hroom, hzs, hzc, hk, hsize, hs']
      · simp only [List.size_toArray, List.length_append, List.length_take, List.length_drop, Array.length_toList, List.length_replicate]
        omega
      · rw [Nat.mul_one] at htake
        rw [htake, ← hlen]
        exact List.take_left
    · have holds : ∀ j u, xs[j]? = some u → w.cell? ((⟨g, 0, none⟩ : Addr).add j) = some u := hown.cells (g := g) rfl
      have hfo := run_firstCells_some (P := P) w.drew i.size n ⟨g, 0, none⟩ n cap xs (by rw [hsize]; exact hown.1) (by simpa using holds)
      rw [hsize] at hfo
      have h63' : ¬ (9223372036854775807 < ((n : Int) + (k : Int))) := by omega
      have h48' : ¬ (281474976710656 < Builtin.nextslicecap (n + k) cap * i.bytes) := by
        rw [hby]; exact Nat.not_lt.2 (growslice_fits (by omega) hbytes)
      have hk : ¬ k = 0 := by omega
      have hgr := hnew cap (by omega) (Value.ownBlock (.slice (some ⟨g, 0, none⟩) n cap)) (xs.toArray ++ Builtin.zeroCells #[z] k) (by rw [hzc]; simp)
      refine ⟨_, _, ?_, hgr.1, hgr.2⟩
      simp [Builtin.append_, run_underlying ht, run_underlying htn, sizeOf, typeInfo, zeroValue, hi, hz, asInt, asIntOf, hw, hneg, h48i, hroom, hzs, hk, hsize, h63', h48', Question.forced, hfo, newRow, grownCap, Array.append_assoc]
end

theorem bc_zeros (k : Nat) : bc (List.replicate k 0) = List.replicate k (.int .u8 0) := by simp [bc, Lib.byteCells]

/-- append of zeros to bytes of the call's own. -/
theorem wpl_zerosB {w : World} {ops : Array Oper} {rest : List Oper} {o : Oper} {a : Act} {Q : Exit → Act → World → Prop} (w0 : World) (l : List UInt8) (k : Nat) (hgd : o.guard = none) (s x : Operand)
    (ho : o.op = .call { callee := .builtin .append, args := #[s, x], argTypes := #[28, 3] })
    (v : Value) (hs : a.eval s = v) (hx : a.eval x = .int .i64 (k : Int)) (hown : OwnB w w0.heap.size v l)
    (hbytes : l.length + k ≤ 140737488355328) (hb : Grow w0 w)
    (h : ∀ v' w', OwnB w' w0.heap.size v' (l ++ List.replicate k 0) → Grow w0 w' → wpList Tryz.prog ops Q rest (a.put o.dst v') w') : wpList Tryz.prog ops Q (o :: rest) a w := by
  obtain ⟨i, hi1, hz, hsize, hby⟩ := info_parts Tryz.info5
  obtain ⟨v', w', hrun, h2, h3⟩ := run_app_zeros (P := Tryz.prog) (w := w) w0.heap.size 28 3 o.type 5 i (.int .u8 0) 1 .i64 .i64 Tryz.underlying28 Tryz.underlying3 hi1 hz hsize hby rfl rfl v _ _ hown k (by unfold maxLen; omega) (by omega) hb.size
  refine Lib.wpList_append_run w hgd s x 28 3 ho v _ hs hx v' w' hrun (h v' w' ?_ (grown_below hb hb.size hown (Nat.le_refl _) h3))
  unfold OwnB
  rw [bc_append, bc_zeros, List.length_append, List.length_replicate]
  exact h2

/-- how many bytes fill up to four -/
def padN (n : Nat) : Nat := (4 - n % 4) % 4
/-- filled up with zeros -/
def padded (l : List UInt8) : List UInt8 := l ++ List.replicate (padN l.length) 0

theorem padN_lt (n : Nat) : padN n < 4 := by unfold padN; omega

set_option maxHeartbeats 1000000 in
theorem copied_any (v : Value) (l : List UInt8) (w : World) (hv : RdB w v l) (hlen : l.length ≤ 140737488355328) :
    Calls Tryz.prog 23 #[v] w (RetB w l.length l) := by
  go_enter Tryz.func23, Tryz.ntmps23
  go_wp2_with (at_builtin; refine wpl_appB w [] l rfl _ _ rfl _ rfl _ rfl (OwnB.nil _ _) hv ?_ (Grow.refl _) ?_)
  · simpa using hlen
  intro v1 w1 ho1 hb1
  go_wp2
  go_ret
  exact RetB.mk _ rfl (by simpa using ho1) hb1 rfl

set_option maxHeartbeats 1000000 in
theorem padded_any (v : Value) (l : List UInt8) (w : World) (hv : RdB w v l) (hlen : l.length ≤ 140737488355000) :
    Calls Tryz.prog 17 #[v] w (RetB w (padded l).length (padded l)) := by
  obtain ⟨ao, c, rfl⟩ := hv.form
  have hown0 : OwnB (w.alloc (.cells #[] 5)) w.heap.size (.slice (some ⟨w.heap.size, 0, none⟩) 0 0) [] := own_empty w 5 1
  have hb0 : Grow w (w.alloc (.cells #[] 5)) := (Grow.refl _).alloc (Nat.le_refl _) _
  have hp := padN_lt l.length
  have hk : (4 - (l.length : Int) % 4) % 4 = (padN l.length : Nat) := by unfold padN; omega
  go_enter Tryz.func17, Tryz.ntmps17
  go_wp2_with (at_builtin; refine wpl_appB w [] l rfl _ _ rfl _ rfl _ rfl hown0 (hv.grow hb0) ?_ hb0 ?_)
  · simp; omega
  intro v1 w1 ho1 hb1
  have HK := Lib.hid hk
  clear hk
  go_wp2_with (first | (go_at_call 30; refine (specPadding_any _ _ (by omega)).mono ?_; rintro e w' ⟨rfl, rfl⟩; rw [HK.out]) | (at_builtin; refine wpl_zerosB w l (padN l.length) rfl _ _ rfl _ rfl rfl ho1 ?_ hb1 ?_))
  · omega
  intro v2 w2 ho2 hb2
  go_wp2
  go_ret
  exact RetB.mk _ rfl ho2 hb2 rfl
end Go.Proofs.YtdpmbchamefkmaaGreatDoor
