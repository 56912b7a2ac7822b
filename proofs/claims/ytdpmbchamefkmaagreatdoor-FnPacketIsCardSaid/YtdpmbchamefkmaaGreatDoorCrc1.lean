/-
The program's CRC-32: its tables.
-/
import Derived.Test.YtdpmbchamefkmaaGreatDoorHeap2
namespace Go.Proofs.YtdpmbchamefkmaaGreatDoor
open Go.RowKit

/-- One operation whose run is known. -/
theorem wpl_val {P : Program} {w : World} {ops : Array Oper} {rest : List Oper} {o : Oper} {a : Act} {Q : Exit → Act → World → Prop} (hg : o.guard = none) (v : Value) (w' : World)
    (hr : (execOp a.eval o).run P w = .ok (.value v) w') (h : wpList P ops Q rest (a.put o.dst v) w') : wpList P ops Q (o :: rest) a w := by
  refine wpList_plain hg fun K hK => ?_
  unfold Oper.wp
  rw [hr]
  exact hK _ _ h

def tab0 : List Value := List.replicate 2048 (.int .u32 0)

theorem run_new150 (a : Act) (w : World) : (execOp a.eval { dst := some 7, op := Op.alloc 150, type := 143, pos := "crc32_generic.go:60", after := #[], guard := none }).run Tryz.prog w = .ok (.value (.pointer (some ⟨w.heap.size, 0, none⟩))) (w.alloc (.cells tab0.toArray 150)) := by kernel_rfl


def tabv (i : Nat) : Value := .int .u32 (Crc.tab i : Nat)
/-- The first k places laid. -/
def fillT (cs : List Value) (k : Nat) : List Value := (List.range k).map tabv ++ cs.drop k

theorem fillT_zero (cs : List Value) : fillT cs 0 = cs := by simp [fillT]
theorem fillT_length (cs : List Value) (k : Nat) (h : k ≤ cs.length) : (fillT cs k).length = cs.length := by simp [fillT]; omega
theorem fillT_set (cs : List Value) (k : Nat) (h : k < cs.length) : (fillT cs k).set k (tabv k) = fillT cs (k + 1) := by
  unfold fillT
  rw [List.set_append_right _ _ (by simp)]
  simp only [List.length_map, List.length_range, Nat.sub_self]
  rw [List.drop_eq_getElem_cons h, List.set_cons_zero, List.range_succ, List.map_append]
  simp

theorem blk_get {w : World} {b : Nat} {T : TypeId} {cs : List Value} (h : Blk w b T cs) (j : Nat) (hj : j < cs.length) : ∃ u, w.cell? ⟨b, j, none⟩ = some u :=
  ⟨cs[j], h.cell j _ (List.getElem?_eq_getElem hj)⟩

set_option maxRecDepth 20000 in
set_option maxHeartbeats 1000000 in
theorem populate_any (b : Nat) (cs : List Value) (w : World) (hb : Blk w b 150 cs) (hcs : 256 ≤ cs.length) :
    Calls Tryz.prog 48 #[.int .u32 2197175160, .pointer (some ⟨b, 0, none⟩)] w fun e w' => e = .returned (.tuple #[]) ∧ Blk w' b 150 (fillT cs 256) ∧ Only b w w' := by
  go_enter Tryz.func48, Tryz.ntmps48
  go_wp2
  go_loopw [4, 5, 6] (fun i _ _ wr => ∃ k : Nat, k ≤ 256 ∧ i = .int .i64 k ∧ Blk wr b 150 (fillT cs k) ∧ Only b w wr) (fun i _ _ _ => 256 - (intOf i).toNat)
  case atStart => exact ⟨0, by omega, rfl, by rw [fillT_zero]; exact hb, Only.refl _ _⟩
  case round =>
    obtain ⟨k, hk, rfl, hbr, hor⟩ := hrel
    by_cases hlt : k < 256
    · have hkm : k % 4294967296 = k := Nat.mod_eq_of_lt (by omega)
      go_wp2
      go_loop [5, 6] (fun t j => ∃ n : Nat, n ≤ 8 ∧ j = .int .i64 n ∧ t = .int .u32 (Crc.rnds n k : Nat)) (fun _ j => 8 - (intOf j).toNat)
      case atStart => exact ⟨0, by omega, rfl, by simp [Crc.rnds]⟩
      case round =>
        obtain ⟨n, hn8, rfl, rfl⟩ := hrel
        by_cases hn : n < 8
        · have ht := Crc.rnds_lt n k (by omega)
          have hsn := Lib.hid (Crc.rnds_succ' n k)
          generalize Crc.rnds n k = t at *
          have h1 := rnd_hand t (by simpa using ht)
          have h2 : bits .xor .u32 ((t : Int) / 2) 2197175160 = ((t / 2 ^^^ Crc.P : Nat) : Int) := rnd_hxor (t / 2) (by omega)
          by_cases hodd : t % 2 = 1
          · have HR := Lib.hid (show Crc.rnd t = (t / 2) ^^^ Crc.P by unfold Crc.rnd; rw [if_pos hodd])
            rw [hodd] at h1
            clear hodd
            go_wp2
            go_round
            case rel => exact ⟨n + 1, by omega, by go_num, by rw [hsn.out, HR.out]⟩
            case measure => simp [intOf]; omega
          · have HR := Lib.hid (show Crc.rnd t = t / 2 by unfold Crc.rnd; rw [if_neg hodd])
            obtain hev : t % 2 = 0 := by omega
            rw [hev] at h1
            clear hodd hev h2
            go_wp2
            go_round
            case rel => exact ⟨n + 1, by omega, by go_num, by rw [hsn.out, HR.out]; go_num⟩
            case measure => simp [intOf]; omega
        · obtain rfl : n = 8 := by omega
          have hl := fillT_length cs k (by omega)
          obtain ⟨u, hc⟩ := blk_get hbr k (by omega)
          have hf := hbr.free k
          have hset := hbr.set k (tabv k)
          rw [fillT_set cs k (by omega)] at hset
          have ho2 := hor.trans (Only.setCell b k wr (tabv k))
          have HT := Lib.hid (show Value.int .u32 (Crc.rnds 8 k : Nat) = tabv k from rfl)
          generalize tabv k = tv at *
          generalize Crc.rnds 8 k = x at *
          go_wp2
          go_roundw
          case rel => rw [HT.out]; exact ⟨k + 1, by omega, by go_num, hset, ho2⟩
          case measure => simp [intOf]; omega
    · obtain rfl : k = 256 := by omega
      go_wp2
      go_end0
      exact ⟨rfl, hbr, hor⟩


/-! ### the eight tables -/

/-- what stands at place p of the eight tables, one behind the other -/
def tabsv (p : Nat) : Value := .int .u32 (Crc.tabs (p / 256) (p % 256) : Nat)

/-- In round i, table j next: whether place p is laid. -/
def laidB (i j p : Nat) : Bool := decide (p % 256 < i) || decide (p / 256 = 0) || (decide (p % 256 = i) && decide (p / 256 < j))

def mid (i j : Nat) : List Value := (List.range 2048).map fun p => if laidB i j p then tabsv p else .int .u32 0

theorem mid_length (i j : Nat) : (mid i j).length = 2048 := by simp [mid]
theorem mid_get (i j p : Nat) (hp : p < 2048) : (mid i j)[p]? = some (if laidB i j p then tabsv p else .int .u32 0) := by
  simp [mid, hp]

theorem mid_start : fillT tab0 256 = mid 0 1 := by
  apply List.ext_getElem?
  intro p
  by_cases hp : p < 2048
  · rw [mid_get 0 1 p hp]
    unfold fillT
    by_cases h : p < 256
    · have e1 : p / 256 = 0 := by omega
      have e2 : p % 256 = p := by omega
      rw [List.getElem?_append_left (by simpa using h)]
      simp [h, laidB, tabsv, tabv, e1, e2, Crc.tabs_zero]
    · have e1 : ¬ p / 256 = 0 := by omega
      have e2 : ¬ p / 256 < 1 := by omega
      rw [List.getElem?_append_right (by simp; omega), List.getElem?_drop, tab0, List.getElem?_replicate, if_pos (by simp; omega)]
      simp [laidB, e1, e2]
  · have h1 : (fillT tab0 256).length = 2048 := by rw [fillT_length _ _ (by unfold tab0; rw [List.length_replicate]; omega)]; unfold tab0; rw [List.length_replicate]
    rw [List.getElem?_eq_none (by rw [h1]; omega), List.getElem?_eq_none (by rw [mid_length]; omega)]

theorem mid_set (i j : Nat) (hi : i < 256) : (mid i j).set (j * 256 + i) (tabsv (j * 256 + i)) = mid i (j + 1) := by
  apply List.ext_getElem?
  intro p
  by_cases hp : p < 2048
  · rw [List.getElem?_set, mid_get i (j + 1) p hp]
    by_cases h : j * 256 + i = p
    · subst h
      have e1 : (j * 256 + i) % 256 = i := by omega
      have e2 : (j * 256 + i) / 256 = j := by omega
      rw [if_pos rfl, if_pos (by rw [mid_length]; omega)]
      simp [laidB, e1, e2]
    · rw [if_neg h, mid_get i j p hp]
      have : laidB i j p = laidB i (j + 1) p := by
        unfold laidB
        have : (decide (p % 256 = i) && decide (p / 256 < j)) = (decide (p % 256 = i) && decide (p / 256 < j + 1)) := by
          by_cases h1 : p % 256 = i
          · have : p / 256 ≠ j := by omega
            by_cases h2 : p / 256 < j
            · have : p / 256 < j + 1 := by omega
              simp [h2, this]
            · have : ¬ p / 256 < j + 1 := by omega
              simp [h2, this]
          · simp [h1]
        rw [this]
      rw [this]
  · rw [List.getElem?_eq_none (by rw [List.length_set, mid_length]; omega), List.getElem?_eq_none (by rw [mid_length]; omega)]

theorem mid_next (i : Nat) (_hi : i < 256) : mid i 8 = mid (i + 1) 1 := by
  apply List.ext_getElem?
  intro p
  by_cases hp : p < 2048
  · rw [mid_get _ _ p hp, mid_get _ _ p hp]
    have : laidB i 8 p = laidB (i + 1) 1 p := by
      unfold laidB
      have h8 : p / 256 < 8 := by omega
      by_cases h1 : p % 256 < i
      · have : p % 256 < i + 1 := by omega
        simp [h1, this]
      · by_cases h2 : p % 256 = i
        · have : p % 256 < i + 1 := by omega
          simp [h2, h8]
        · have h3 : ¬ p % 256 < i + 1 := by omega
          simp [h1, h2, h3]
    rw [this]
  · rw [List.getElem?_eq_none (by rw [mid_length]; omega), List.getElem?_eq_none (by rw [mid_length]; omega)]

/-- the tables, whole -/
def tabsL : List Value := mid 256 1
theorem tabsL_get (p : Nat) (hp : p < 2048) : tabsL[p]? = some (tabsv p) := by
  unfold tabsL
  rw [mid_get _ _ p hp, if_pos]
  have : p % 256 < 256 := by omega
  simp [laidB, this]

end Go.Proofs.YtdpmbchamefkmaaGreatDoor
