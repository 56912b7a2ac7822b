/-
Buffers: a row of bytes made whole, cut, written into, copied into.
-/
import Derived.Test.YtdpmbchamefkmaaGreatDoorHeap2
import Derived.Test.YtdpmbchamefkmaaGreatDoorCrc1
import Derived.Deep.OwnRows
import Derived.Laws.CopyOwn
import Derived.Laws.IdiomCopy
namespace Go.Proofs.YtdpmbchamefkmaaGreatDoor
open Go.RowKit

theorem madeCells_one (z : Value) (n : Nat) : madeCells #[z] n = (List.replicate n z).toArray := by
  apply Array.ext
  · simp [madeCells]
  · intro i h1 h2
    simp [madeCells, Nat.mod_one]

/-- A row of n elements of one cell each, all of them nought. -/
theorem run_makeN (t e : TypeId) (z : Value) (bytes : Nat) (ht : Tryz.prog.underlying t = some (.slice e)) (hinfo : (Tryz.prog.info? e).map (fun i => (i.zero, i.size, i.bytes)) = some (some z, 1, bytes)) (hz1 : z.cells = #[z])
    (kl kc : IntKind) (n : Nat) (hbytes : bytes * n ≤ 281474976710656) (h63 : n ≤ 9223372036854775807) (w : World) :
    (Instr.makeSlice t (.int kl (n : Int)) (.int kc (n : Int))).run Tryz.prog w = .ok (.slice (some ⟨w.heap.size, 0, none⟩) n n) (w.alloc (.cells (List.replicate n z).toArray e)) := by
  rw [run_make_row' t e z bytes ht hinfo hz1 kl kc n hbytes h63 w, madeCells_one]

def zerosB (n : Nat) : List UInt8 := List.replicate n 0
theorem zerosB_length (n : Nat) : (zerosB n).length = n := by simp [zerosB]
theorem bc_zerosB (n : Nat) : bc (zerosB n) = List.replicate n (.int .u8 0) := by simp [zerosB, bc, Lib.byteCells]

theorem wpl_makeB {w : World} {ops : Array Oper} {rest : List Oper} {o : Oper} {a : Act} {Q : Exit → Act → World → Prop} (hg : o.guard = none) (x y : Operand) (ho : o.op = .makeSlice 28 x y) (kl kc : IntKind) (L : Int) (n : Nat)
    (hx : a.eval x = .int kl L) (hy : a.eval y = .int kc L) (hL : L = n) (hn : n ≤ 140737488355328)
    (h : ∀ g w', w.heap.size ≤ g → Blk w' g 5 (bc (zerosB n)) → Grow w w' → wpList Tryz.prog ops Q rest (a.put o.dst (.slice (some ⟨g, 0, none⟩) n n)) w') : wpList Tryz.prog ops Q (o :: rest) a w := by
  subst hL
  refine wpl_val hg _ _ ?_ (h w.heap.size (w.alloc (.cells (bc (zerosB n)).toArray 5)) (Nat.le_refl _) (Blk.new w 5 _) (grow_alloc _ _))
  have hr := run_makeN 28 5 (.int .u8 0) 1 Tryz.underlying28 Tryz.info5 rfl kl kc n (by omega) (by omega) w
  rw [bc_zerosB]
  unfold execOp
  rw [ho]
  simp [hx, hy, hr, Result.andThen]

theorem OwnB.of_blk {w : World} {g B : Nat} {l : List UInt8} (h : Blk w g 5 (bc l)) (hB : B ≤ g) (hl : l.length ≤ 140737488355328) : OwnB w B (.slice (some ⟨g, 0, none⟩) l.length l.length) l := by
  refine ⟨by simp [bc_length], .inr ⟨g, l.length, (bc l).toArray, rfl, hB, h, Nat.le_refl _, ?_, ?_, ?_⟩⟩
  · simp [maxLen]; omega
  · simp [bc_length]
  · simp [bc_length, List.take_of_length_le]

theorem OwnB.blk {w : World} {g B n : Nat} {l : List UInt8} (h : OwnB w B (.slice (some ⟨g, 0, none⟩) n n) l) : Blk w g 5 (bc l) := by
  obtain rfl := own_len h
  obtain ⟨h1, h2 | ⟨g', cap, cur, hv, _, hc, _, _, hs, ht⟩⟩ := h
  · simp at h2
  · simp only [Value.slice.injEq, Option.some.injEq, Addr.mk.injEq, and_true, true_and] at hv
    obtain ⟨rfl, rfl⟩ := hv
    unfold Blk
    rw [hc, ← ht, List.take_of_length_le (by simp [hs])]

/-- the numbers' writing, said of a whole block -/
theorem bufP32 (g lo m c : Nat) (l : List UInt8) (x : Nat) (w : World) (hb : Blk w g 5 (bc l)) (hl : l.length ≤ 140737488355328) (hx : x < 4294967296) (hlo : lo + 4 ≤ l.length) (hm : 4 ≤ m) :
    Calls Tryz.prog 41 #[.agg #[], .slice (some ⟨g, lo, none⟩) m c, .int .u32 x] w fun e w' => e = .returned (.tuple #[]) ∧ Blk w' g 5 (bc (putL l lo (be4 x))) ∧ Only g w w' := by
  refine (beP32_any g l.length l.length lo m c l 0 x w (OwnB.of_blk hb (Nat.zero_le _) hl) hx hlo hm).mono ?_
  rintro e w' ⟨rfl, ho, hg⟩
  exact ⟨rfl, ho.blk, hg⟩

theorem bufP16 (g lo m c : Nat) (l : List UInt8) (x : Nat) (w : World) (hb : Blk w g 5 (bc l)) (hl : l.length ≤ 140737488355328) (hx : x < 65536) (hlo : lo + 2 ≤ l.length) (hm : 2 ≤ m) :
    Calls Tryz.prog 40 #[.agg #[], .slice (some ⟨g, lo, none⟩) m c, .int .u16 x] w fun e w' => e = .returned (.tuple #[]) ∧ Blk w' g 5 (bc (putL l lo (be2 x))) ∧ Only g w w' := by
  refine (beP16_any g l.length l.length lo m c l 0 x w (OwnB.of_blk hb (Nat.zero_le _) hl) hx hlo hm).mono ?_
  rintro e w' ⟨rfl, ho, hg⟩
  exact ⟨rfl, ho.blk, hg⟩

theorem Only.setRow (g : Nat) (w : World) (cs : Array Value) : Only g w (w.setRow g cs) :=
  ⟨rfl, rfl, rfl, by simp [World.setRow], fun k _ hk => setRow_other w g k cs (by simpa using hk)⟩

/-- copy(buf[off:], v) -/
theorem wpl_copyB {w : World} {ops : Array Oper} {rest : List Oper} {o : Oper} {a : Act} {Q : Exit → Act → World → Prop} (hg : o.guard = none) (d s : Operand)
    (ho : o.op = .call { callee := .builtin .copy, args := #[d, s], argTypes := #[28, 28] }) (g off m c : Nat) (ad : Option Addr) (cur : List UInt8) (v : Value) (l : List UInt8) (hd : a.eval d = .slice ad m c) (had : 0 < m → ad = some ⟨g, off, none⟩) (hs : a.eval s = v)
    (hb : Blk w g 5 (bc cur)) (hr : RdB w v l) (hm : l.length ≤ m) (hfit : off + l.length ≤ cur.length)
    (h : ∀ w', Blk w' g 5 (bc (putL cur off l)) → Only g w w' → wpList Tryz.prog ops Q rest (a.put o.dst (.int .i64 (l.length : Nat))) w') : wpList Tryz.prog ops Q (o :: rest) a w := by
  by_cases h0 : l.length = 0
  · obtain rfl := List.eq_nil_of_length_eq_zero h0
    obtain ⟨ao, c0, rfl⟩ := hr.form
    refine wpl_val hg _ _ ?_ (h w (by rw [putL_nil]; exact hb) (Only.refl _ _))
    have hrun := run_copy_none (P := Tryz.prog) w 28 28 o.type 5 ad ao m c 0 c0 Tryz.underlying28 Tryz.size5 (by simp)
    unfold execOp
    rw [ho]
    simp [resolve, invoke, builtin, hd, hs, hrun, Result.andThen, goInt]
  · obtain ⟨g', o', c', rfl, _, hcell⟩ := hr.at (by omega)
    obtain rfl := had (by omega)
    refine wpl_val hg _ _ ?_ (h (w.setRow g ((bc cur).take off ++ bc l ++ (bc cur).drop (off + (bc l).length)).toArray) ?_ (Only.setRow _ _ _))
    · have hrun := run_copy_row (P := Tryz.prog) w 28 28 o.type 5 g off m c ⟨g', o', none⟩ l.length c' (bc cur).toArray 5 (bc l) Tryz.underlying28 Tryz.size5 hb (by rw [bc_length]; exact (Nat.min_eq_left hm).symm)
        (by
          intro j u hj
          have hjl : j < l.length := by have := (List.getElem?_eq_some_iff.1 hj).1; rwa [bc_length] at this
          have h2 := bc_get l j l[j] (List.getElem?_eq_getElem hjl)
          rw [h2] at hj
          cases hj
          have h3 := hcell j _ (List.getElem?_eq_getElem hjl)
          by_cases hj0 : j = 0
          · subst hj0; simpa [Addr.add] using h3
          · simpa [Addr.add, hj0] using h3)
        (by simpa [bc_length] using hfit) (bc_one l)
      unfold execOp
      rw [ho]
      simp only [List.append_assoc, bc_length] at hrun ⊢
      simp [resolve, invoke, builtin, hd, hs, hrun, Result.andThen, goInt]
    · have h1 := setRow_heap w g (bc cur).toArray ((bc cur).take off ++ bc l ++ (bc cur).drop (off + (bc l).length)).toArray 5 (0, 0) hb
      unfold Blk
      rw [h1, bc_length, bc_take, bc_drop, ← bc_append, ← bc_append]
      simp [putL]

/-- a buffer's cut, 'buf[lo:]' -/
theorem cutbuf (g lo m n : Nat) (L : Int) (hL : L = lo) (hn : lo + m = n) :
    ∃ ad, (0 < m → ad = some ⟨g, lo, none⟩) ∧ ∀ (w : World) (kl : IntKind), (Instr.slice 28 (.slice (some ⟨g, 0, none⟩) n n) (some (.int kl L)) none none).run Tryz.prog w = .ok (.slice ad m m) w := by
  subst hL hn
  obtain ⟨i, hi1, hi2⟩ := Option.map_eq_some_iff.1 Tryz.size5
  refine ⟨if lo + m = lo then some ⟨g, 0, none⟩ else some ⟨g, lo, none⟩, fun h => by rw [if_neg (by omega)], fun w kl => ?_⟩
  by_cases h0 : m = 0
  · subst h0
    simp [Instr.slice, run_underlying Tryz.underlying28, Instr.sliceBounds, Instr.sliceBound, asIntOf, sizeOf, typeInfo, hi1]
  · by_cases hl : lo = 0
    · subst hl
      simp [Instr.slice, run_underlying Tryz.underlying28, Instr.sliceBounds, Instr.sliceBound, asIntOf, sizeOf, typeInfo, hi1, h0, Addr.add]
    · simp [Instr.slice, run_underlying Tryz.underlying28, Instr.sliceBounds, Instr.sliceBound, asIntOf, sizeOf, typeInfo, hi1, hi2, h0, Addr.add, hl]

theorem cutbuf1 (g lo m n : Nat) (L : Int) (hL : L = lo) (hn : lo + m = n) (hm : 0 < m) (w : World) (kl : IntKind) :
    (Instr.slice 28 (.slice (some ⟨g, 0, none⟩) n n) (some (.int kl L)) none none).run Tryz.prog w = .ok (.slice (some ⟨g, lo, none⟩) m m) w := by
  obtain ⟨ad, h1, h2⟩ := cutbuf g lo m n L hL hn
  rw [h2, h1 hm]

/-- a byte put -/
theorem bc_set (l : List UInt8) (j : Nat) (b : UInt8) : bc (l.set j b) = (bc l).set j (.int .u8 b.toNat) := by simp [bc, Lib.byteCells, List.map_set]
theorem blkB_set {w : World} {g : Nat} {l : List UInt8} (hb : Blk w g 5 (bc l)) (j : Nat) (b : UInt8) (u : Value) (hu : u = .int .u8 b.toNat) : Blk (w.setCell ⟨g, j, none⟩ u) g 5 (bc (l.set j b)) := by
  rw [bc_set, hu]; exact hb.set j _
theorem blkB_cell {w : World} {g : Nat} {l : List UInt8} (hb : Blk w g 5 (bc l)) (j : Nat) (hj : j < l.length) : ∃ u, w.cell? ⟨g, j, none⟩ = some u :=
  ⟨_, hb.cell j _ (bc_get l j l[j] (List.getElem?_eq_getElem hj))⟩
end Go.Proofs.YtdpmbchamefkmaaGreatDoor
