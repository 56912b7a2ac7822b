/-
A selective acknowledgement's text, and its cells.
-/
import Derived.Test.YtdpmbchamefkmaaGreatDoorHead2
namespace Go.Proofs.YtdpmbchamefkmaaGreatDoor
open Go.RowKit

def gapB (p : Nat × Nat) : List UInt8 := be2 p.1 ++ be2 p.2
theorem gapB_length (p : Nat × Nat) : (gapB p).length = 4 := rfl

theorem flat_length {α β : Type} (f : α → List β) (m : Nat) (hf : ∀ a, (f a).length = m) (L : List α) : ((L.map f).flatten).length = m * L.length := by
  induction L with
  | nil => simp
  | cons a L ih => simp [hf, ih, Nat.mul_add]; omega

theorem flat_drop {α β : Type} (f : α → List β) (m : Nat) (hf : ∀ a, (f a).length = m) (L : List α) (k : Nat) (hk : k < L.length) :
    ((L.map f).flatten).drop (m * k) = f L[k] ++ ((L.drop (k + 1)).map f).flatten := by
  induction L generalizing k with
  | nil => simp at hk
  | cons a L ih =>
    cases k with
    | zero => simp
    | succ k =>
      have := ih k (by simpa using hk)
      simp only [List.map_cons, List.flatten_cons, List.getElem_cons_succ, List.drop_succ_cons]
      rw [← this, List.drop_append, hf, show m * (k + 1) - m = m * k by rw [Nat.mul_succ]; omega, List.drop_eq_nil_of_le (by rw [hf, Nat.mul_succ]; omega), List.nil_append]

def sackB (tsn win : Nat) (gaps : List (Nat × Nat)) (dups : List Nat) : List UInt8 :=
  be4 tsn ++ (be4 win ++ (be2 gaps.length ++ (be2 dups.length ++ ((gaps.map gapB).flatten ++ (dups.map be4).flatten))))

theorem gaps_length (gaps : List (Nat × Nat)) : ((gaps.map gapB).flatten).length = 4 * gaps.length := flat_length gapB 4 gapB_length gaps
theorem dups_length (dups : List Nat) : ((dups.map be4).flatten).length = 4 * dups.length := flat_length be4 4 be4_length dups

theorem sackB_length (tsn win : Nat) (gaps : List (Nat × Nat)) (dups : List Nat) : (sackB tsn win gaps dups).length = 12 + 4 * gaps.length + 4 * dups.length := by
  simp only [sackB, List.length_append, be4_length, be2_length, gaps_length, dups_length]; omega

theorem sack_drop4 (tsn win : Nat) (gaps : List (Nat × Nat)) (dups : List Nat) : (sackB tsn win gaps dups).drop 4 = be4 win ++ (be2 gaps.length ++ (be2 dups.length ++ ((gaps.map gapB).flatten ++ (dups.map be4).flatten))) := by
  simp [sackB, be4]
theorem sack_drop8 (tsn win : Nat) (gaps : List (Nat × Nat)) (dups : List Nat) : (sackB tsn win gaps dups).drop 8 = be2 gaps.length ++ (be2 dups.length ++ ((gaps.map gapB).flatten ++ (dups.map be4).flatten)) := by
  simp [sackB, be4]
theorem sack_drop10 (tsn win : Nat) (gaps : List (Nat × Nat)) (dups : List Nat) : (sackB tsn win gaps dups).drop 10 = be2 dups.length ++ ((gaps.map gapB).flatten ++ (dups.map be4).flatten) := by
  simp [sackB, be4, be2]
theorem sack_drop12 (tsn win : Nat) (gaps : List (Nat × Nat)) (dups : List Nat) : (sackB tsn win gaps dups).drop 12 = (gaps.map gapB).flatten ++ (dups.map be4).flatten := by
  simp [sackB, be4, be2]

theorem sack_gap (tsn win : Nat) (gaps : List (Nat × Nat)) (dups : List Nat) (k : Nat) (hk : k < gaps.length) : ∃ r, (sackB tsn win gaps dups).drop (12 + 4 * k) = be2 gaps[k].1 ++ (be2 gaps[k].2 ++ r) := by
  rw [← List.drop_drop, sack_drop12, List.drop_append_of_le_length (by rw [gaps_length]; omega), flat_drop gapB 4 gapB_length gaps k hk]
  exact ⟨((gaps.drop (k + 1)).map gapB).flatten ++ (dups.map be4).flatten, by simp only [gapB, List.append_assoc]⟩
theorem sack_dup (tsn win : Nat) (gaps : List (Nat × Nat)) (dups : List Nat) (k : Nat) (hk : k < dups.length) : ∃ r, (sackB tsn win gaps dups).drop (12 + 4 * gaps.length + 4 * k) = be4 dups[k] ++ r := by
  have h := gaps_length gaps
  rw [← List.drop_drop, ← List.drop_drop, sack_drop12, ← h, List.drop_left, flat_drop be4 4 be4_length dups k hk]
  exact ⟨_, rfl⟩

theorem u32of_be4 (x : Nat) (hx : x < 4294967296) (r : List UInt8) : u32of (be4 x ++ r) = x := by
  simp only [be4, List.cons_append, List.nil_append, u32of, UInt8.toNat_ofNat']
  omega

/-! ### the cells -/
def gapC (p : Nat × Nat) : List Value := [.int .u16 (p.1 : Nat), .int .u16 (p.2 : Nat)]
def gapCells (gaps : List (Nat × Nat)) : List Value := (gaps.map gapC).flatten
def dupCells (dups : List Nat) : List Value := dups.map fun n => .int .u32 (n : Nat)

def gapMid (gaps : List (Nat × Nat)) (k : Nat) : List Value := gapCells (gaps.take k) ++ List.replicate (2 * (gaps.length - k)) (.int .u16 0)
def dupMid (dups : List Nat) (k : Nat) : List Value := dupCells (dups.take k) ++ List.replicate (dups.length - k) (.int .u32 0)

theorem gapCells_length (gaps : List (Nat × Nat)) : (gapCells gaps).length = 2 * gaps.length := flat_length gapC 2 (fun _ => rfl) gaps
theorem dupCells_length (dups : List Nat) : (dupCells dups).length = dups.length := by simp [dupCells]
theorem gapMid_length (gaps : List (Nat × Nat)) (k : Nat) (hk : k ≤ gaps.length) : (gapMid gaps k).length = 2 * gaps.length := by simp [gapMid, gapCells_length, Nat.min_eq_left hk]; omega
theorem dupMid_length (dups : List Nat) (k : Nat) (hk : k ≤ dups.length) : (dupMid dups k).length = dups.length := by simp [dupMid, dupCells_length, Nat.min_eq_left hk]; omega
theorem gapMid_zero (gaps : List (Nat × Nat)) : gapMid gaps 0 = List.replicate (2 * gaps.length) (.int .u16 0) := by simp [gapMid, gapCells]
theorem dupMid_zero (dups : List Nat) : dupMid dups 0 = List.replicate dups.length (.int .u32 0) := by simp [dupMid, dupCells]
theorem gapMid_all (gaps : List (Nat × Nat)) : gapMid gaps gaps.length = gapCells gaps := by simp [gapMid]
theorem dupMid_all (dups : List Nat) : dupMid dups dups.length = dupCells dups := by simp [dupMid]

theorem gapMid_set (gaps : List (Nat × Nat)) (k : Nat) (hk : k < gaps.length) : ((gapMid gaps k).set (2 * k) (.int .u16 (gaps[k].1 : Nat))).set (2 * k + 1) (.int .u16 (gaps[k].2 : Nat)) = gapMid gaps (k + 1) := by
  have hl : (gapCells (gaps.take k)).length = 2 * k := by rw [gapCells_length, List.length_take, Nat.min_eq_left (by omega)]
  unfold gapMid
  rw [show 2 * (gaps.length - k) = 2 * (gaps.length - (k + 1)) + 1 + 1 by omega, List.replicate_succ, List.replicate_succ, List.set_append_right _ _ (by omega), hl, Nat.sub_self, List.set_append_right _ _ (by omega), hl,
    show 2 * k + 1 - 2 * k = 1 by omega]
  simp only [List.set_cons_zero, List.set_cons_succ]
  have ht : gapCells (gaps.take (k + 1)) = gapCells (gaps.take k) ++ gapC gaps[k] := by
    rw [gapCells, List.take_add_one, List.getElem?_eq_getElem hk, List.map_append, List.flatten_append]
    simp [gapCells]
  rw [ht]
  simp [gapC]

theorem dupMid_set (dups : List Nat) (k : Nat) (hk : k < dups.length) : (dupMid dups k).set k (.int .u32 (dups[k] : Nat)) = dupMid dups (k + 1) := by
  have hl : (dupCells (dups.take k)).length = k := by rw [dupCells_length, List.length_take, Nat.min_eq_left (by omega)]
  unfold dupMid
  rw [show dups.length - k = (dups.length - (k + 1)) + 1 by omega, List.replicate_succ, List.set_append_right _ _ (by omega), hl, Nat.sub_self]
  simp only [List.set_cons_zero]
  have ht : dupCells (dups.take (k + 1)) = dupCells (dups.take k) ++ [.int .u32 (dups[k] : Nat)] := by
    rw [dupCells, List.take_add_one, List.getElem?_eq_getElem hk, List.map_append]
    simp [dupCells]
  rw [ht]
  simp

theorem gapCells_get (gaps : List (Nat × Nat)) (k : Nat) (hk : k < gaps.length) : (gapCells gaps)[2 * k]? = some (.int .u16 (gaps[k].1 : Nat)) ∧ (gapCells gaps)[2 * k + 1]? = some (.int .u16 (gaps[k].2 : Nat)) := by
  have h := flat_drop gapC 2 (fun _ => rfl) gaps k hk
  change (gapCells gaps).drop (2 * k) = _ at h
  constructor
  · have : ((gapCells gaps).drop (2 * k))[0]? = some (.int .u16 (gaps[k].1 : Nat)) := by rw [h]; simp [gapC]
    simpa using this
  · have : ((gapCells gaps).drop (2 * k))[1]? = some (.int .u16 (gaps[k].2 : Nat)) := by rw [h]; simp [gapC]
    simpa using this
theorem dupCells_get (dups : List Nat) (k : Nat) (hk : k < dups.length) : (dupCells dups)[k]? = some (.int .u32 (dups[k] : Nat)) := by simp [dupCells, List.getElem?_eq_getElem hk]

/-! ### rows of numbers made -/
theorem Tryz.underlying106 : Tryz.prog.underlying 106 = some (.slice 242) := by kernel_rfl
theorem Tryz.underlying24 : Tryz.prog.underlying 24 = some (.slice 22) := by kernel_rfl
theorem Tryz.info22 : (Tryz.prog.info? 22).map (fun i => (i.zero, i.size, i.bytes)) = some (some (.int .u32 0), 1, 4) := by kernel_rfl
theorem Tryz.info242 : (Tryz.prog.info? 242).map (fun i => (i.zero, i.size, i.bytes)) = some (some (.agg #[.int .u16 0, .int .u16 0]), 2, 4) := by kernel_rfl

theorem run_make24 (n : Nat) (hn : n < 65536) (w : World) (L : Int) (hL : L = n) : (Instr.makeSlice 24 (.int .u16 L) (.int .u16 L)).run Tryz.prog w = .ok (.slice (some ⟨w.heap.size, 0, none⟩) n n) (w.alloc (.cells (List.replicate n (.int .u32 0)).toArray 22)) := by
  subst hL
  exact run_makeN 24 22 _ 4 Tryz.underlying24 Tryz.info22 rfl _ _ n (by omega) (by omega) w

theorem run_make106 (n : Nat) (hn : n < 65536) (w : World) (L : Int) (hL : L = n) : (Instr.makeSlice 106 (.int .u16 L) (.int .u16 L)).run Tryz.prog w = .ok (.slice (some ⟨w.heap.size, 0, none⟩) n n) (w.alloc (.cells (List.replicate (2 * n) (.int .u16 0)).toArray 242)) := by
  subst hL
  obtain ⟨i, hi, hzz⟩ := Option.map_eq_some_iff.1 Tryz.info242
  simp only [Prod.mk.injEq] at hzz
  obtain ⟨hz, hs, hb⟩ := hzz
  have hr := run_make (P := Tryz.prog) w 106 242 i _ Tryz.underlying106 hi hz .u16 .u16 n n (by omega) (Int.le_refl _) (by rw [hb]; omega) (by omega)
  simp only [Int.toNat_natCast, hs] at hr
  rw [hr]
  have : madeCells (Value.agg #[.int .u16 0, .int .u16 0]).cells (n * 2) = (List.replicate (2 * n) (.int .u16 0)).toArray := by
    apply Array.ext
    · simp [madeCells]; omega
    · intro j h1 h2
      simp only [madeCells, Array.getElem_map, List.getElem_toArray, List.getElem_replicate, Value.cells]
      rcases Nat.mod_two_eq_zero_or_one j with h | h <;> simp [h]
  rw [this]

/-- a new block is nobody's -/
theorem Only.new {b g : Nat} {w w1 w2 : World} (h : Only b w w1) (k : Only g w1 w2) (hg : w.heap.size ≤ g) : Only b w w2 :=
  ⟨k.os.trans h.os, k.tape.trans h.tape, k.output.trans h.output, Nat.le_trans h.size k.size, fun j hj hne => (k.block j (Nat.lt_of_lt_of_le hj h.size) (by simp; omega)).trans (h.block j hj hne)⟩
theorem Only.grow {b : Nat} {w w1 w2 : World} (h : Only b w w1) (k : Grow w1 w2) : Only b w w2 := h.trans (Only.of_grow k)

/-- a number read out of a text that came in -/
theorem rdU32 {w1 : World} {v : Value} {l : List UInt8} (hv : RdB w1 v l) (lo m x : Nat) (r : List UInt8) (L : Int) (hL : L = lo) (hm : lo + m = l.length) (hx : x < 4294967296) (hd : l.drop lo = be4 x ++ r) :
    ∃ a c, (∀ w kl, (Instr.slice 28 v (some (.int kl L)) none none).run Tryz.prog w = .ok (.slice a m c) w) ∧ ∀ w', Grow w1 w' → Calls Tryz.prog 38 #[.agg #[], .slice a m c] w' fun e w'' => e = .returned (.int .u32 x) ∧ Grow w' w'' := by
  obtain ⟨a, c, h1, h2⟩ := cut_l hv lo m L hL hm
  refine ⟨a, c, h1, fun w' h => ?_⟩
  have h3 := beU32_any _ _ w' ((h2 w1 hv).grow h) (by rw [hd]; simp [be4])
  rw [hd, u32of_be4 x hx] at h3
  exact h3
theorem rdU16 {w1 : World} {v : Value} {l : List UInt8} (hv : RdB w1 v l) (lo m x : Nat) (r : List UInt8) (L : Int) (hL : L = lo) (hm : lo + m = l.length) (hx : x < 65536) (hd : l.drop lo = be2 x ++ r) :
    ∃ a c, (∀ w kl, (Instr.slice 28 v (some (.int kl L)) none none).run Tryz.prog w = .ok (.slice a m c) w) ∧ ∀ w', Grow w1 w' → Calls Tryz.prog 37 #[.agg #[], .slice a m c] w' fun e w'' => e = .returned (.int .u16 x) ∧ Grow w' w'' := by
  obtain ⟨a, c, h1, h2⟩ := cut_l hv lo m L hL hm
  refine ⟨a, c, h1, fun w' h => ?_⟩
  have h3 := beU16_any _ _ w' ((h2 w1 hv).grow h) (by rw [hd]; simp [be2])
  rw [hd, u16of_be2 x hx] at h3
  exact h3

/-- a new row as a step of a calm region -/
def NewRow (B T n : Nat) (cs : List Value) (u : Value) (w : World) : Prop := ∃ g, u = .slice (some ⟨g, 0, none⟩) n n ∧ B ≤ g ∧ Blk w g T cs
theorem NewRow.stable (B T n : Nat) (cs : List Value) : Stable (NewRow B T n cs) := fun _ _ _ ⟨g, h1, h2, h3⟩ hg => ⟨g, h1, h2, h3.grow hg⟩

def fill (N : Nat) (d : List UInt8) : List UInt8 := d ++ zerosB (N - d.length)
theorem fill_nil (N : Nat) : fill N [] = zerosB N := by simp [fill]
theorem fill_length (N : Nat) (d : List UInt8) (h : d.length ≤ N) : (fill N d).length = N := by simp [fill, zerosB_length]; omega
theorem fill_full (N : Nat) (d : List UInt8) (h : d.length = N) : fill N d = d := by simp [fill, h, zerosB]
theorem fill_put (N lo : Nat) (d bs : List UInt8) (hd : d.length = lo) (h : lo + bs.length ≤ N) : putL (fill N d) lo bs = fill N (d ++ bs) := by
  subst hd
  unfold putL fill
  rw [List.take_left' rfl, List.append_assoc]
  congr 2
  rw [List.drop_append, List.drop_eq_nil_of_le (by omega), List.nil_append, show d.length + bs.length - d.length = bs.length by omega, zerosB, List.drop_replicate, List.length_append]
  unfold zerosB
  congr 1; omega

theorem fillP32 (g lo m c N : Nat) (d : List UInt8) (x : Nat) (w : World) (hb : Blk w g 5 (bc (fill N d))) (hN : N ≤ 140737488355328) (hd : d.length = lo) (hx : x < 4294967296) (hlo : lo + 4 ≤ N) (hm : 4 ≤ m) :
    Calls Tryz.prog 41 #[.agg #[], .slice (some ⟨g, lo, none⟩) m c, .int .u32 x] w fun e w' => e = .returned (.tuple #[]) ∧ Blk w' g 5 (bc (fill N (d ++ be4 x))) ∧ Only g w w' := by
  have hl := fill_length N d (by omega)
  have := bufP32 g lo m c (fill N d) x w hb (by omega) hx (by omega) hm
  rw [fill_put N lo d _ hd (by rw [be4_length]; omega)] at this
  exact this
theorem fillP16 (g lo m c N : Nat) (d : List UInt8) (x : Nat) (w : World) (hb : Blk w g 5 (bc (fill N d))) (hN : N ≤ 140737488355328) (hd : d.length = lo) (hx : x < 65536) (hlo : lo + 2 ≤ N) (hm : 2 ≤ m) :
    Calls Tryz.prog 40 #[.agg #[], .slice (some ⟨g, lo, none⟩) m c, .int .u16 x] w fun e w' => e = .returned (.tuple #[]) ∧ Blk w' g 5 (bc (fill N (d ++ be2 x))) ∧ Only g w w' := by
  have hl := fill_length N d (by omega)
  have := bufP16 g lo m c (fill N d) x w hb (by omega) hx (by omega) hm
  rw [fill_put N lo d _ hd (by rw [be2_length]; omega)] at this
  exact this
theorem run_makeZ (n : Nat) (hn : n ≤ 140737488355328) (w : World) (L : Int) (hL : L = n) : (Instr.makeSlice 28 (.int .i64 L) (.int .i64 L)).run Tryz.prog w = .ok (.slice (some ⟨w.heap.size, 0, none⟩) n n) (w.alloc (.cells (bc (fill n [])).toArray 5)) := by
  subst hL
  rw [fill_nil, bc_zerosB]
  exact run_makeN 28 5 (.int .u8 0) 1 Tryz.underlying28 Tryz.info5 rfl _ _ n (by omega) (by omega) w
end Go.Proofs.YtdpmbchamefkmaaGreatDoor
