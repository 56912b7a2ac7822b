/-
Words for slices that are read, and the laws of append, slicing and make over them.
-/
import Derived.Test.YtdpmbchamefkmaaGreatDoorCalm
import Derived.Test.YtdpmbchamefkmaaGreatDoorProg
import Derived.WalkKit
import Derived.WalkSpells
import Derived.WalkLawsBesides
import Derived.Handy
import Derived.Lib.EndianMore
import Derived.Lib.UnsafeStr
import Derived.Lib.AppendZeros
import Derived.Laws.CopyOwn
import Derived.Lib.Hide
namespace Go.Proofs.YtdpmbchamefkmaaGreatDoor
open Go.RowKit

/-! ### the program's tables -/
theorem Tryz.underlying28 : Tryz.prog.underlying 28 = some (.slice 5) := by kernel_rfl
theorem Tryz.underlying31 : Tryz.prog.underlying 31 = some (.slice 28) := by kernel_rfl
theorem Tryz.underlying3 : Tryz.prog.underlying 3 = some (.int .i64) := by kernel_rfl
theorem Tryz.info5 : (Tryz.prog.info? 5).map (fun i => (i.zero, i.size, i.bytes)) = some (some (.int .u8 0), 1, 1) := by kernel_rfl
theorem Tryz.info28 : (Tryz.prog.info? 28).map (fun i => (i.zero, i.size, i.bytes)) = some (some (.slice none 0 0), 1, 24) := by kernel_rfl
theorem Tryz.mixed : Tryz.prog.follows .mixedOrders = true := by kernel_rfl

/-! ### a slice that is read -/

/-- The slice value v, of n elements of so many cells each, reads as the cells xs. -/
def Rd (w : World) (size : Nat) (v : Value) (n : Nat) (xs : List Value) : Prop :=
  xs.length = n * size ∧ ((∃ ao c, v = .slice ao 0 c ∧ n = 0 ∧ (ao = none → c = 0)) ∨
    ∃ g o c, v = .slice (some ⟨g, o, none⟩) n c ∧ n ≤ c ∧ ∀ j u, xs[j]? = some u → w.cell? ⟨g, o + j, none⟩ = some u)

theorem cell_grow {w w' : World} (hg : Grow w w') {p : Addr} {u : Value} (h : w.cell? p = some u) : w'.cell? p = some u :=
  (hg.cell (World.block_lt_of_cell? w p h)).trans h

theorem frozen_grow {w w' : World} (hg : Grow w w') {p : Addr} {u : Value} (h : w.cell? p = some u) : w'.frozen? p = w.frozen? p :=
  hg.frozen (World.block_lt_of_cell? w p h)

theorem Rd.grow {w w' : World} {size n : Nat} {v : Value} {xs : List Value} (h : Rd w size v n xs) (hg : Grow w w') : Rd w' size v n xs := by
  refine ⟨h.1, ?_⟩
  rcases h.2 with h2 | ⟨g, o, c, hv, hc, hcell⟩
  · exact .inl h2
  · exact .inr ⟨g, o, c, hv, hc, fun j u hu => cell_grow hg (hcell j u hu)⟩

theorem Rd.stable (size n : Nat) (xs : List Value) : Stable (fun v w => Rd w size v n xs) := fun _ _ _ h hg => h.grow hg

/-- Its shape: always a slice of n elements. -/
theorem Rd.form {w : World} {size n : Nat} {v : Value} {xs : List Value} (h : Rd w size v n xs) : ∃ ao c, v = .slice ao n c := by
  rcases h.2 with ⟨ao, c, hv, hn, _⟩ | ⟨g, o, c, hv, _, _⟩
  · subst hn; exact ⟨ao, c, hv⟩
  · exact ⟨_, c, hv⟩

theorem Rd.at {w : World} {size n : Nat} {v : Value} {xs : List Value} (h : Rd w size v n xs) (hn : 0 < n) :
    ∃ g o c, v = .slice (some ⟨g, o, none⟩) n c ∧ n ≤ c ∧ ∀ j u, xs[j]? = some u → w.cell? ⟨g, o + j, none⟩ = some u := by
  rcases h.2 with ⟨ao, c, hv, h0, _⟩ | h2
  · omega
  · exact h2

theorem Rd.of_own {w : World} {base size n : Nat} {e : TypeId} {v : Value} {xs : List Value} (h : w.ownsRow base e size v n xs) : Rd w size v n xs := by
  refine ⟨h.1, ?_⟩
  rcases h.2 with ⟨rfl, rfl⟩ | ⟨g, cap, cur, rfl, _, hg, hc, _, _, htake⟩
  · exact .inl ⟨none, 0, rfl, rfl, fun _ => rfl⟩
  · refine .inr ⟨g, 0, cap, rfl, hc, fun j u hu => ?_⟩
    have := h.cells (g := g) rfl j u hu
    have hadd : (⟨g, 0, none⟩ : Addr).add j = ⟨g, 0 + j, none⟩ := by unfold Addr.add; split <;> simp_all
    rwa [hadd] at this

theorem Rd.lit {w : World} {g : Nat} {cs : Array Value} {T : TypeId} {fz : Nat × Nat} (hg : w.heap[g]? = some (.cells cs T fz)) (size n : Nat) (hs : cs.size = n * size) :
    Rd w size (.slice (some ⟨g, 0, none⟩) n n) n cs.toList :=
  ⟨by simpa using hs, .inr ⟨g, 0, n, rfl, Nat.le_refl _, fun j u hu => by rw [Nat.zero_add, cell_of_row w g j cs T fz hg]; simpa using hu⟩⟩

/-- What is owned stays owned where the world but grows. -/
theorem own_grow {w w' : World} {base size n : Nat} {e : TypeId} {v : Value} {xs : List Value} (h : w.ownsRow base e size v n xs) (hg : Grow w w') : w'.ownsRow base e size v n xs :=
  h.kept (row := none) ⟨hg.os, hg.tape, hg.output, hg.size, fun k hk _ => hg.block k hk⟩ (by cases v.ownBlock <;> simp)

theorem own_stable (base size n : Nat) (e : TypeId) (xs : List Value) : Stable (fun v w => w.ownsRow base e size v n xs) := fun _ _ _ h hg => own_grow h hg

theorem own_mono {w : World} {base base' size n : Nat} {e : TypeId} {v : Value} {xs : List Value} (h : w.ownsRow base e size v n xs) (hb : base' ≤ base) : w.ownsRow base' e size v n xs := by
  refine ⟨h.1, ?_⟩
  rcases h.2 with h2 | ⟨g, cap, cur, hv, hg, rest⟩
  · exact .inl h2
  · exact .inr ⟨g, cap, cur, hv, Nat.le_trans hb hg, rest⟩

theorem own_form {w : World} {base size n : Nat} {e : TypeId} {v : Value} {xs : List Value} (h : w.ownsRow base e size v n xs) : ∃ ao c, v = .slice ao n c := (Rd.of_own h).form

/-- A store into a block below: what is owned stays. -/
theorem grown_below {B : Nat} {w0 w w' : World} {base size n : Nat} {e : TypeId} {v : Value} {xs : List Value} (hb : Below B w0 w) (hB : B ≤ w.heap.size) (hown : w.ownsRow base e size v n xs) (hbase : B ≤ base)
    (hg : w.grownBy w' v.ownBlock) : Below B w0 w' :=
  hb.grown hg hB fun k hk => Nat.le_trans hbase (hown.lt k hk).1

/-! ### append -/
section
variable {P : Program} {w : World}

theorem run_app (base : Nat) (t ty e : TypeId) (i : TypeInfo) (z : Value) (size bytes : Nat) (ht : P.underlying t = some (.slice e)) (hi : P.info? e = some i) (hz : i.zero = some z)
    (hsize : i.size = size) (hby : i.bytes = bytes) (hzs : z.cells.size = size) (hsz : 0 < size)
    (v : Value) (n : Nat) (xs : List Value) (hown : w.ownsRow base e size v n xs) (u : Value) (m : Nat) (ys : List Value) (hr : Rd w size u m ys) (h1 : ∀ y ∈ ys, y.oneCell' = true)
    (h63 : n + m ≤ maxLen) (hbytes : (n + m) * bytes ≤ 140737488355328) (hbase : base ≤ w.heap.size) :
    ∃ v' w', (Builtin.append_ #[t, t] ty #[v, u]).run P w = .ok v' w' ∧ w'.ownsRow base e size v' (n + m) (xs ++ ys) ∧ w.grownBy w' v.ownBlock := by
  obtain ⟨hl, h2⟩ := hr
  rcases h2 with ⟨ao, c, rfl, rfl, hnil⟩ | ⟨g, o, c, rfl, _, hcell⟩
  · have hy : ys = [] := List.eq_nil_of_length_eq_zero (by simpa using hl)
    subst hy
    cases ao with
    | none =>
      obtain rfl := hnil rfl
      exact ⟨v, w, run_append_owned_none (P := P) w base t ty e i size ht hi v n xs hown, by simpa using hown, World.grownBy.refl _ _⟩
    | some a =>
      obtain ⟨v', w', h, h', h'', _⟩ := run_append_own (P := P) w base t ty e i z size bytes ht hi hz hsize hby hzs hsz v n xs hown a 0 c [] (by simp) (by simp) (by simp) h63 hbytes hbase
      exact ⟨v', w', h, h', h''⟩
  · obtain ⟨v', w', h, h', h'', _⟩ := run_append_own (P := P) w base t ty e i z size bytes ht hi hz hsize hby hzs hsz v n xs hown ⟨g, o, none⟩ m c ys hl (fun j u hu => by
      have hadd : (⟨g, o, none⟩ : Addr).add j = ⟨g, o + j, none⟩ := by unfold Addr.add; split <;> simp_all
      rw [hadd]; exact hcell j u hu) h1 h63 hbytes hbase
    exact ⟨v', w', h, h', h''⟩

/-- The walk's law: append of what is read to what is owned. -/
theorem wpl_app {ops : Array Oper} {rest : List Oper} {o : Oper} {a : Act} {Q : Exit → Act → World → Prop} (hgd : o.guard = none) (s x : Operand) (t : TypeId)
    (ho : o.op = .call { callee := .builtin .append, args := #[s, x], argTypes := #[t, t] })
    (base : Nat) (e : TypeId) (z : Value) (size bytes : Nat) (ht : P.underlying t = some (.slice e)) (hi : (P.info? e).map (fun i => (i.zero, i.size, i.bytes)) = some (some z, size, bytes))
    (hzs : z.cells.size = size) (hsz : 0 < size)
    (v : Value) (n : Nat) (xs : List Value) (hs : a.eval s = v) (hown : w.ownsRow base e size v n xs) (u : Value) (m : Nat) (ys : List Value) (hx : a.eval x = u) (hr : Rd w size u m ys) (h1 : ∀ y ∈ ys, y.oneCell' = true)
    (hbytes : (n + m) * bytes ≤ 140737488355328) (h63 : n + m ≤ 140737488355328) (hbase : base ≤ w.heap.size)
    (h : ∀ v' w', w'.ownsRow base e size v' (n + m) (xs ++ ys) → w.grownBy w' v.ownBlock → wpList P ops Q rest (a.put o.dst v') w') : wpList P ops Q (o :: rest) a w := by
  obtain ⟨i, hi1, hz, hsize, hby⟩ := info_parts hi
  obtain ⟨v', w', hrun, h2, h3⟩ := run_app (P := P) (w := w) base t o.type e i z size bytes ht hi1 hz hsize hby hzs hsz v n xs hown u m ys hr h1 (by unfold maxLen; omega) hbytes hbase
  exact Lib.wpList_append_run w hgd s x t t ho v u hs hx v' w' hrun (h v' w' h2 h3)

/-! ### slicing -/

/-- 'v[lo:hi]' -/
def cutV (v : Value) (lo hi : Nat) : Value :=
  match v with
  | .slice a _ c => .slice (if c = lo then a else a.map (·.add lo)) (hi - lo) (c - lo)
  | v => v

theorem run_cut (t e : TypeId) (ht : P.underlying t = some (.slice e)) (he : (P.info? e).map (·.size) = some 1) {w0 : World} {v : Value} {n : Nat} {xs : List Value} (hr : Rd w0 1 v n xs) (kl kh : IntKind) (lo hi : Nat) (h1 : lo ≤ hi) (h2 : hi ≤ n) (w : World) :
    (Instr.slice t v (some (.int kl (lo : Int))) (some (.int kh (hi : Int))) none).run P w = .ok (cutV v lo hi) w := by
  obtain ⟨ao, c, rfl⟩ := hr.form
  have hc : n ≤ c := by
    rcases hr.2 with ⟨_, _, h, h0, _⟩ | ⟨_, _, _, h, hc, _⟩
    · simp at h; omega
    · simp at h; omega
  obtain ⟨i, hi1, hi2⟩ := Option.map_eq_some_iff.1 he
  simp [Instr.slice, run_underlying ht, Instr.sliceBounds, Instr.sliceBound, asIntOf, sizeOf, typeInfo, hi1, hi2, cutV, h1, (show hi ≤ c by omega)]

theorem run_cut_l (t e : TypeId) (ht : P.underlying t = some (.slice e)) (he : (P.info? e).map (·.size) = some 1) {w0 : World} {v : Value} {n : Nat} {xs : List Value} (hr : Rd w0 1 v n xs) (kl : IntKind) (lo : Nat) (h1 : lo ≤ n) (w : World) :
    (Instr.slice t v (some (.int kl (lo : Int))) none none).run P w = .ok (cutV v lo n) w := by
  obtain ⟨ao, c, rfl⟩ := hr.form
  obtain ⟨i, hi1, hi2⟩ := Option.map_eq_some_iff.1 he
  simp [Instr.slice, run_underlying ht, Instr.sliceBounds, Instr.sliceBound, asIntOf, sizeOf, typeInfo, hi1, hi2, cutV, h1]

theorem Rd.cut {w : World} {v : Value} {n : Nat} {xs : List Value} (hr : Rd w 1 v n xs) (lo hi : Nat) (h1 : lo ≤ hi) (h2 : hi ≤ n) : Rd w 1 (cutV v lo hi) (hi - lo) ((xs.take hi).drop lo) := by
  obtain ⟨hl, hr2⟩ := hr
  refine ⟨by simp; omega, ?_⟩
  rcases hr2 with ⟨ao, c, rfl, rfl, hnil⟩ | ⟨g, o, c, rfl, hc, hcell⟩
  · obtain rfl : hi = 0 := by omega
    obtain rfl : lo = 0 := by omega
    refine .inl ⟨ao, c, ?_, rfl, hnil⟩
    simp only [cutV, Nat.sub_zero]
    congr 1
    cases ao <;> simp [Addr.add]
  · by_cases he : hi - lo = 0
    · by_cases hcl : c = lo
      · refine .inl ⟨some ⟨g, o, none⟩, c - lo, ?_, he, by simp⟩
        simp [cutV, hcl, he]
      · refine .inl ⟨some ((⟨g, o, none⟩ : Addr).add lo), c - lo, ?_, he, by simp⟩
        simp [cutV, hcl, he]
    · have hcl : ¬ c = lo := by omega
      have hadd : (⟨g, o, none⟩ : Addr).add lo = ⟨g, o + lo, none⟩ := by unfold Addr.add; split <;> simp_all
      refine .inr ⟨g, o + lo, c - lo, ?_, by omega, fun j u hu => ?_⟩
      · simp [cutV, hcl, hadd]
      · have hu' : xs[lo + j]? = some u := by
          rw [List.getElem?_drop, List.getElem?_take] at hu
          split at hu
          · exact hu
          · cases hu
        have := hcell (lo + j) u hu'
        rwa [← Nat.add_assoc] at this

end

/-! ### bytes -/


abbrev bc (l : List UInt8) : List Value := Lib.byteCells l

theorem bc_length (l : List UInt8) : (bc l).length = l.length := by simp [bc, Lib.byteCells]
theorem bc_append (a b : List UInt8) : bc (a ++ b) = bc a ++ bc b := by simp [bc, Lib.byteCells]
theorem bc_nil : bc [] = [] := rfl
theorem bc_one (l : List UInt8) : ∀ y ∈ bc l, y.oneCell' = true := by
  intro y hy
  simp only [bc, Lib.byteCells, List.mem_map] at hy
  obtain ⟨b, _, rfl⟩ := hy
  rfl
theorem bc_drop (l : List UInt8) (k : Nat) : (bc l).drop k = bc (l.drop k) := by simp [bc, Lib.byteCells]
theorem bc_take (l : List UInt8) (k : Nat) : (bc l).take k = bc (l.take k) := by simp [bc, Lib.byteCells]
theorem bc_get (l : List UInt8) (j : Nat) (b : UInt8) (h : l[j]? = some b) : (bc l)[j]? = some (.int .u8 b.toNat) := by simp [bc, Lib.byteCells, h]

/-- The slice of bytes v reads as l. -/
def RdB (w : World) (v : Value) (l : List UInt8) : Prop := Rd w 1 v l.length (bc l)

/-- The slice of bytes v, the call's own from block B on, holds l. -/
def OwnB (w : World) (B : Nat) (v : Value) (l : List UInt8) : Prop := w.ownsRow B 5 1 v l.length (bc l)

theorem OwnB.rd {w : World} {B : Nat} {v : Value} {l : List UInt8} (h : OwnB w B v l) : RdB w v l := Rd.of_own h
theorem OwnB.grow {w w' : World} {B : Nat} {v : Value} {l : List UInt8} (h : OwnB w B v l) (hg : Grow w w') : OwnB w' B v l := own_grow h hg
theorem RdB.grow {w w' : World} {v : Value} {l : List UInt8} (h : RdB w v l) (hg : Grow w w') : RdB w' v l := Rd.grow h hg
theorem OwnB.mono {w : World} {B B' : Nat} {v : Value} {l : List UInt8} (h : OwnB w B v l) (hB : B' ≤ B) : OwnB w B' v l := own_mono h hB
theorem OwnB.nil (w : World) (B : Nat) : OwnB w B (.slice none 0 0) [] := World.ownsRow_nil _ _ _ _
theorem RdB.nil (w : World) : RdB w (.slice none 0 0) [] := (OwnB.nil w 0).rd

theorem OwnB.stable (B : Nat) (l : List UInt8) : Stable (fun v w => OwnB w B v l) := fun _ _ _ h hg => h.grow hg
theorem RdB.stable (l : List UInt8) : Stable (fun v w => RdB w v l) := fun _ _ _ h hg => h.grow hg

theorem RdB.cut {w : World} {v : Value} {l : List UInt8} (h : RdB w v l) (lo hi : Nat) (h1 : lo ≤ hi) (h2 : hi ≤ l.length) : RdB w (cutV v lo hi) ((l.take hi).drop lo) := by
  have := Rd.cut h lo hi h1 h2
  unfold RdB
  rw [← bc_drop, ← bc_take]
  rwa [List.length_drop, List.length_take, Nat.min_eq_left h2]

theorem RdB.cut_l {w : World} {v : Value} {l : List UInt8} (h : RdB w v l) (lo : Nat) (h1 : lo ≤ l.length) : RdB w (cutV v lo l.length) (l.drop lo) := by
  have := h.cut lo l.length h1 (Nat.le_refl _)
  rwa [List.take_length] at this

theorem RdB.at {w : World} {v : Value} {l : List UInt8} (h : RdB w v l) (hn : 0 < l.length) :
    ∃ g o c, v = .slice (some ⟨g, o, none⟩) l.length c ∧ l.length ≤ c ∧ ∀ (j : Nat) (b : UInt8), l[j]? = some b → w.cell? ⟨g, o + j, none⟩ = some (.int .u8 b.toNat) := by
  obtain ⟨g, o, c, hv, hc, hcell⟩ := Rd.at h hn
  exact ⟨g, o, c, hv, hc, fun j b hb => hcell j _ (bc_get l j b hb)⟩

theorem OwnB.form {w : World} {B : Nat} {v : Value} {l : List UInt8} (h : OwnB w B v l) : ∃ ao c, v = .slice ao l.length c := Rd.form h.rd

/-- What a call hands back: bytes of its own. -/
def RetB (w : World) (n : Nat) (l : List UInt8) (e : Ending) (w' : World) : Prop := ∃ ao c, e = .returned (.slice ao n c) ∧ OwnB w' w.heap.size (.slice ao n c) l ∧ Grow w w'

theorem RetB.mk {w w' : World} {l : List UInt8} {e : Ending} {u : Value} (n : Nat) (he : e = .returned u) (ho : OwnB w' w.heap.size u l) (hb : Grow w w') (hn : l.length = n) : RetB w n l e w' := by
  subst hn
  obtain ⟨ao, c, rfl⟩ := ho.form
  exact ⟨ao, c, he, ho, hb⟩

/-- The end of a walk: what a last call handed back. -/
theorem RetB.fin {w w1 w2 : World} {l : List UInt8} {u : Value} {n : Nat} (hg : Grow w w1) (ho : OwnB w2 w1.heap.size u l) (hb : Grow w1 w2) (hn : l.length = n) : RetB w n l (.returned u) w2 :=
  RetB.mk n rfl (ho.mono hg.size) (hg.trans hb) hn

theorem RdB.form {w : World} {v : Value} {l : List UInt8} (h : RdB w v l) : ∃ ao c, v = .slice ao l.length c := Rd.form h

/-- One byte in a new block. -/
theorem RdB.lit1 {w : World} {g : Nat} {cs : Array Value} {T : TypeId} {fz : Nat × Nat} (l : List UInt8) (hg : w.heap[g]? = some (.cells cs T fz)) (hc : cs.toList = bc l) : RdB w (.slice (some ⟨g, 0, none⟩) l.length l.length) l := by
  have := Rd.lit hg 1 l.length (by rw [← Array.length_toList, hc, bc_length, Nat.mul_one])
  rwa [hc] at this

/-- The slice of slices of bytes v reads as ls. -/
def RdBs (w : World) (v : Value) (ls : List (List UInt8)) : Prop := ∃ vs, Rd w 1 v ls.length vs ∧ ∀ (j : Nat) (l : List UInt8), ls[j]? = some l → ∃ u, vs[j]? = some u ∧ RdB w u l

theorem RdBs.grow {w w' : World} {v : Value} {ls : List (List UInt8)} (h : RdBs w v ls) (hg : Grow w w') : RdBs w' v ls := by
  obtain ⟨vs, h1, h2⟩ := h
  exact ⟨vs, h1.grow hg, fun j l hl => let ⟨u, hu, hr⟩ := h2 j l hl; ⟨u, hu, hr.grow hg⟩⟩

theorem RdBs.stable (ls : List (List UInt8)) : Stable (fun v w => RdBs w v ls) := fun _ _ _ h hg => h.grow hg

theorem RdBs.form {w : World} {v : Value} {ls : List (List UInt8)} (h : RdBs w v ls) : ∃ ao c, v = .slice ao ls.length c := by
  obtain ⟨vs, h1, _⟩ := h
  exact h1.form

/-- Its element number k. -/
theorem RdBs.at {w : World} {ao : Option Addr} {c : Nat} {ls : List (List UInt8)} (h : RdBs w (.slice ao ls.length c) ls) (k : Nat) (hk : k < ls.length) :
    ∃ g o u, ao = some ⟨g, o, none⟩ ∧ w.cell? ⟨g, o + k, none⟩ = some u ∧ RdB w u ls[k] := by
  obtain ⟨vs, h1, h2⟩ := h
  obtain ⟨g, o, c', hv, _, hcell⟩ := h1.at (by omega)
  simp only [Value.slice.injEq, true_and] at hv
  obtain ⟨u, hu, hr⟩ := h2 k ls[k] (List.getElem?_eq_getElem hk)
  exact ⟨g, o, u, hv.1, hcell k u hu, hr⟩

theorem cutV_form {v : Value} {w : World} {l : List UInt8} (h : RdB w v l) (lo hi : Nat) : ∃ a c, cutV v lo hi = .slice a (hi - lo) c := by
  obtain ⟨ao, c, rfl⟩ := h.form
  exact ⟨_, _, rfl⟩

theorem Tryz.size5 : (Tryz.prog.info? 5).map (·.size) = some 1 := by kernel_rfl

/-- 'v[lo:hi]' of bytes, its value under a name. -/
theorem cut_lh {v : Value} {w0 : World} {l : List UInt8} (h : RdB w0 v l) (lo hi n : Nat) (L H : Int) (hL : L = lo) (hH : H = hi) (h1 : lo + n = hi) (h2 : hi ≤ l.length) :
    ∃ a c, (∀ w kl kh, (Instr.slice 28 v (some (.int kl L)) (some (.int kh H)) none).run Tryz.prog w = .ok (.slice a n c) w) ∧ ∀ w, RdB w v l → RdB w (.slice a n c) ((l.take hi).drop lo) := by
  subst hL hH
  obtain ⟨a, c, hc⟩ := cutV_form h lo hi
  rw [show hi - lo = n by omega] at hc
  exact ⟨a, c, fun w kl kh => hc ▸ run_cut 28 5 Tryz.underlying28 Tryz.size5 h kl kh lo hi (by omega) h2 w, fun w hw => hc ▸ hw.cut lo hi (by omega) h2⟩

/-- 'v[lo:]' -/
theorem cut_l {v : Value} {w0 : World} {l : List UInt8} (h : RdB w0 v l) (lo n : Nat) (L : Int) (hL : L = lo) (h1 : lo + n = l.length) :
    ∃ a c, (∀ w kl, (Instr.slice 28 v (some (.int kl L)) none none).run Tryz.prog w = .ok (.slice a n c) w) ∧ ∀ w, RdB w v l → RdB w (.slice a n c) (l.drop lo) := by
  subst hL
  obtain ⟨a, c, hc⟩ := cutV_form h lo l.length
  rw [show l.length - lo = n by omega] at hc
  exact ⟨a, c, fun w kl => hc ▸ run_cut_l 28 5 Tryz.underlying28 Tryz.size5 h kl lo (by omega) w, fun w hw => hc ▸ hw.cut_l lo (by omega)⟩

/-- 'v[:hi]' -/
theorem cut_h {v : Value} {w0 : World} {l : List UInt8} (h : RdB w0 v l) (hi : Nat) (H : Int) (hH : H = hi) (h2 : hi ≤ l.length) :
    ∃ a c, (∀ w kh, (Instr.slice 28 v none (some (.int kh H)) none).run Tryz.prog w = .ok (.slice a hi c) w) ∧ ∀ w, RdB w v l → RdB w (.slice a hi c) (l.take hi) := by
  subst hH
  obtain ⟨a, c, hc⟩ := cutV_form h 0 hi
  rw [Nat.sub_zero] at hc
  refine ⟨a, c, fun w kh => hc ▸ ?_, fun w hw => by have := hw.cut 0 hi (Nat.zero_le _) h2; rw [hc] at this; simpa using this⟩
  obtain ⟨ao, c', rfl⟩ := h.form
  have hle : l.length ≤ c' := by
    rcases h.2 with ⟨_, _, h, h0, _⟩ | ⟨_, _, _, h, hc, _⟩
    · simp at h; omega
    · simp at h; omega
  obtain ⟨i, hi1, hi2⟩ := Option.map_eq_some_iff.1 Tryz.size5
  simp [Instr.slice, run_underlying Tryz.underlying28, Instr.sliceBounds, Instr.sliceBound, asIntOf, sizeOf, typeInfo, hi1, cutV, (show hi ≤ c' by omega)]

/-- four noughts -/
def z4 : List UInt8 := [0, 0, 0, 0]

theorem run_make4 (w : World) : (Instr.makeSlice 28 (.int .i64 4) (.int .i64 4)).run Tryz.prog w = .ok (.slice (some ⟨w.heap.size, 0, none⟩) 4 4) (w.alloc (.cells #[.int .u8 0, .int .u8 0, .int .u8 0, .int .u8 0] 5)) := by kernel_rfl

theorem rd_make4 (w : World) (k : Nat) (hk : w.heap.size = k) : RdB (w.alloc (.cells #[.int .u8 0, .int .u8 0, .int .u8 0, .int .u8 0] 5)) (.slice (some ⟨k, 0, none⟩) 4 4) z4 := by
  subst hk
  exact RdB.lit1 z4 (heap_alloc_new w _) rfl

theorem grow_drew {w w1 : World} (h : Grow w.drew w1) : Grow w w1 := Grow.trans ((Grow.refl w).drew) h

theorem grow_alloc (w : World) (o : Obj) : Grow w (w.alloc o) := (Grow.refl _).alloc (Nat.le_refl _) _

/-- append of bytes to bytes of the call's own. -/
theorem wpl_appB {w : World} {ops : Array Oper} {rest : List Oper} {o : Oper} {a : Act} {Q : Exit → Act → World → Prop} (w0 : World) (l m : List UInt8) (hgd : o.guard = none) (s x : Operand)
    (ho : o.op = .call { callee := .builtin .append, args := #[s, x], argTypes := #[28, 28] })
    (v : Value) (hs : a.eval s = v) (u : Value) (hx : a.eval x = u) (hown : OwnB w w0.heap.size v l) (hr : RdB w u m)
    (hbytes : l.length + m.length ≤ 140737488355328) (hb : Grow w0 w)
    (h : ∀ v' w', OwnB w' w0.heap.size v' (l ++ m) → Grow w0 w' → wpList Tryz.prog ops Q rest (a.put o.dst v') w') : wpList Tryz.prog ops Q (o :: rest) a w := by
  refine wpl_app hgd s x 28 ho w0.heap.size 5 (.int .u8 0) 1 1 Tryz.underlying28 Tryz.info5 rfl (by decide) v _ _ hs hown u _ _ hx hr (bc_one m) (by omega) hbytes hb.size fun v' w' h1 h2 => h v' w' ?_ (grown_below hb hb.size hown (Nat.le_refl _) h2)
  unfold OwnB
  rwa [bc_append, List.length_append]

end Go.Proofs.YtdpmbchamefkmaaGreatDoor
