/-
Blocks that are written: their cells known whole; worlds under a name; numbers read and written in bytes.
-/
import Derived.Test.YtdpmbchamefkmaaGreatDoorSpec6
import Derived.Lib.EndianBits
namespace Go.Proofs.YtdpmbchamefkmaaGreatDoor
open Go.RowKit

/-- Of the blocks that were there at most b has turned. -/
abbrev Only (b : Nat) (w w' : World) : Prop := w.grownBy w' (some b)

theorem Only.refl (b : Nat) (w : World) : Only b w w := World.grownBy.refl _ _
theorem Only.trans {b : Nat} {u v w : World} (h : Only b u v) (k : Only b v w) : Only b u w :=
  ⟨k.os.trans h.os, k.tape.trans h.tape, k.output.trans h.output, Nat.le_trans h.size k.size, fun i hi hne => (k.block i (Nat.lt_of_lt_of_le hi h.size) hne).trans (h.block i hi hne)⟩
theorem Only.of_grow {b : Nat} {w w' : World} (h : Grow w w') : Only b w w' := ⟨h.os, h.tape, h.output, h.size, fun k hk _ => h.block k hk⟩
theorem Only.setCell (b o : Nat) (w : World) (u : Value) : Only b w (w.setCell ⟨b, o, none⟩ u) :=
  ⟨rfl, rfl, rfl, by simp, fun k _ hk => Below.heap_setCell w ⟨b, o, none⟩ u k (fun e => hk (by rw [e]))⟩
/-- A block that is younger than w0: of what was there in w0 nothing has turned. -/
theorem Only.below {b : Nat} {w0 w w' : World} (hb : Grow w0 w) (h : Only b w w') (hB : w0.heap.size ≤ b) : Grow w0 w' :=
  hb.grown h hb.size fun k hk => by rw [← Option.some.inj hk]; exact hB
theorem Only.drew {b : Nat} {w w' : World} (h : Only b w w') : Only b w w'.drew := ⟨h.os, h.tape, h.output, h.size, h.block⟩

/-- Block b holds just these cells. -/
def Blk (w : World) (b : Nat) (T : TypeId) (cs : List Value) : Prop := w.heap[b]? = some (.cells cs.toArray T (0, 0))

theorem Blk.lt {w : World} {b : Nat} {T : TypeId} {cs : List Value} (h : Blk w b T cs) : b < w.heap.size := (Array.getElem?_eq_some_iff.1 h).1
theorem Blk.grow {w w' : World} {b : Nat} {T : TypeId} {cs : List Value} (h : Blk w b T cs) (hg : Grow w w') : Blk w' b T cs := (hg.block b h.lt).trans h
theorem Blk.only {w w' : World} {b b' : Nat} {T : TypeId} {cs : List Value} (h : Blk w b T cs) (hg : Only b' w w') (hne : b ≠ b') : Blk w' b T cs := (hg.block b h.lt (by simpa using hne)).trans h
theorem Blk.cell {w : World} {b : Nat} {T : TypeId} {cs : List Value} (h : Blk w b T cs) (j : Nat) (u : Value) (hu : cs[j]? = some u) : w.cell? ⟨b, j, none⟩ = some u := by
  rw [cell_of_row w b j _ T _ h]; simpa using hu
theorem Blk.free {w : World} {b : Nat} {T : TypeId} {cs : List Value} (h : Blk w b T cs) (j : Nat) : w.frozen? ⟨b, j, none⟩ = false := by
  unfold Blk at h
  simp [World.frozen?, h]
theorem Blk.new (w : World) (T : TypeId) (cs : List Value) : Blk (w.alloc (.cells cs.toArray T)) w.heap.size T cs := heap_alloc_new w _
theorem Blk.set {w : World} {b : Nat} {T : TypeId} {cs : List Value} (h : Blk w b T cs) (j : Nat) (u : Value) : Blk (w.setCell ⟨b, j, none⟩ u) b T (cs.set j u) := by
  have := heap_setCell_same w b j cs.toArray T u h
  unfold Blk
  rw [this]
  simp
theorem Blk.set_other {w : World} {b b' : Nat} {T : TypeId} {cs : List Value} (h : Blk w b T cs) (j : Nat) (u : Value) (hne : b ≠ b') : Blk (w.setCell ⟨b', j, none⟩ u) b T cs := h.only (Only.setCell b' j w u) hne
theorem Blk.drew {w : World} {b : Nat} {T : TypeId} {cs : List Value} (h : Blk w b T cs) : Blk w.drew b T cs := h
theorem Blk.alloc {w : World} {b : Nat} {T : TypeId} {cs : List Value} (h : Blk w b T cs) (o : Obj) : Blk (w.alloc o) b T cs := h.grow (grow_alloc w o)

/-- The world under a new name: what is needed of it is kept. -/
theorem wp_at {P : Program} {c : Code} {Q : Exit → Act → World → Prop} {a : Act} {w : World} (R : World → Prop) (h : R w) (hk : ∀ w', R w' → c.wp P Q a w') : c.wp P Q a w := hk w h

/-- bytes laid over bytes -/
def putL (l : List UInt8) (o : Nat) (bs : List UInt8) : List UInt8 := l.take o ++ (bs ++ l.drop (o + bs.length))

theorem putL_length (l : List UInt8) (o : Nat) (bs : List UInt8) (h : o + bs.length ≤ l.length) : (putL l o bs).length = l.length := by simp [putL]; omega

/-! ### numbers out of bytes -/
def u16of : List UInt8 → Nat
  | b0 :: b1 :: _ => b0.toNat * 256 + b1.toNat
  | _ => 0
def u32of : List UInt8 → Nat
  | b0 :: b1 :: b2 :: b3 :: _ => b0.toNat * 16777216 + b1.toNat * 65536 + b2.toNat * 256 + b3.toNat
  | _ => 0
def le32of : List UInt8 → Nat
  | b0 :: b1 :: b2 :: b3 :: _ => b0.toNat + b1.toNat * 256 + b2.toNat * 65536 + b3.toNat * 16777216
  | _ => 0

theorem cells4 {w : World} {v : Value} {l : List UInt8} (hv : RdB w v l) (h4 : 4 ≤ l.length) :
    ∃ g o c b0 b1 b2 b3 r, v = .slice (some ⟨g, o, none⟩) l.length c ∧ l = b0 :: b1 :: b2 :: b3 :: r ∧
      w.cell? ⟨g, o, none⟩ = some (.int .u8 b0.toNat) ∧ w.cell? ⟨g, o + 1, none⟩ = some (.int .u8 b1.toNat) ∧ w.cell? ⟨g, o + 2, none⟩ = some (.int .u8 b2.toNat) ∧ w.cell? ⟨g, o + 3, none⟩ = some (.int .u8 b3.toNat) := by
  obtain ⟨g, o, c, hv1, hc, hcell⟩ := hv.at (by omega)
  match l, h4, hcell with
  | b0 :: b1 :: b2 :: b3 :: r, _, hcell =>
    exact ⟨g, o, c, b0, b1, b2, b3, r, hv1, rfl, by simpa using hcell 0 b0 rfl, hcell 1 b1 rfl, hcell 2 b2 rfl, hcell 3 b3 rfl⟩

theorem cells2 {w : World} {v : Value} {l : List UInt8} (hv : RdB w v l) (h2 : 2 ≤ l.length) :
    ∃ g o c b0 b1 r, v = .slice (some ⟨g, o, none⟩) l.length c ∧ l = b0 :: b1 :: r ∧
      w.cell? ⟨g, o, none⟩ = some (.int .u8 b0.toNat) ∧ w.cell? ⟨g, o + 1, none⟩ = some (.int .u8 b1.toNat) := by
  obtain ⟨g, o, c, hv1, hc, hcell⟩ := hv.at (by omega)
  match l, h2, hcell with
  | b0 :: b1 :: r, _, hcell =>
    exact ⟨g, o, c, b0, b1, r, hv1, rfl, by simpa using hcell 0 b0 rfl, hcell 1 b1 rfl⟩

set_option maxRecDepth 20000 in
set_option maxHeartbeats 1000000 in
theorem beU32_any (v : Value) (l : List UInt8) (w : World) (hv : RdB w v l) (hk : 4 ≤ l.length) :
    Calls Tryz.prog 38 #[.agg #[], v] w fun e w' => e = .returned (.int .u32 (u32of l : Nat)) ∧ Grow w w' := by
  obtain ⟨g, o, c, b0, b1, b2, b3, r, rfl, rfl, c0, c1, c2, c3⟩ := cells4 hv hk
  have h0 : b0.toNat < 256 := b0.toNat_lt
  have h1 : b1.toNat < 256 := b1.toNat_lt
  have h2 : b2.toNat < 256 := b2.toNat_lt
  have h3 : b3.toNat < 256 := b3.toNat_lt
  have hn : 4 ≤ (b0 :: b1 :: b2 :: b3 :: r).length := hk
  clear hv hk
  generalize (b0 :: b1 :: b2 :: b3 :: r).length = n at hn
  have n0 : 0 < n := by omega
  have n1 : (1 : Int) < (n : Int) := by omega
  have n2 : (2 : Int) < (n : Int) := by omega
  have n3 : (3 : Int) < (n : Int) := by omega
  have d0 : ∀ w1, Grow (w.alloc (.cells #[] 136)).drew w1 → w1.cell? ⟨g, o, none⟩ = some (.int .u8 b0.toNat) := fun w1 hw => cell_grow ((grow_alloc w _).trans (grow_drew hw)) c0
  have d1 : ∀ w1, Grow (w.alloc (.cells #[] 136)).drew w1 → w1.cell? ⟨g, o + 1, none⟩ = some (.int .u8 b1.toNat) := fun w1 hw => cell_grow ((grow_alloc w _).trans (grow_drew hw)) c1
  have d2 : ∀ w1, Grow (w.alloc (.cells #[] 136)).drew w1 → w1.cell? ⟨g, o + 2, none⟩ = some (.int .u8 b2.toNat) := fun w1 hw => cell_grow ((grow_alloc w _).trans (grow_drew hw)) c2
  have d3 : ∀ w1, Grow (w.alloc (.cells #[] 136)).drew w1 → w1.cell? ⟨g, o + 3, none⟩ = some (.int .u8 b3.toNat) := fun w1 hw => cell_grow ((grow_alloc w _).trans (grow_drew hw)) c3
  have e3 := cell_grow (grow_alloc w (.cells #[] 136)) c3
  go_enter Tryz.func38, Tryz.ntmps38
  go_wp2
  refine wp_region_calm 22 30 Tryz.mixed rfl (by kernel_rfl) ?_
  simp only [List.take_succ_cons, List.take_zero, List.drop_succ_cons, List.drop_zero]
  iterate 22
    apply calm_val (D' := []) (hD := rfl)
    · intro w1 hw1
      simp only [fillAll]
      go_simp
      exact ⟨rfl, Grow.refl _⟩
    simp only [Act.put, List.setIfInBounds_toArray, List.set_cons_succ, List.set_cons_zero]
  intro w1 hw1
  simp only [fillAll]
  go_wp2
  go_ret
  refine ⟨?_, (grow_alloc w _).trans (grow_drew hw1)⟩
  refine ret_int (b := ((b0.toNat * 16777216 + b1.toNat * 65536 + b2.toNat * 256 + b3.toNat : Nat) : Int)) ?_
  simp (disch := omega) only [u32_wrap_id, u32_or8, u32_or16, u32_or24]
  omega

set_option maxRecDepth 20000 in
set_option maxHeartbeats 1000000 in
theorem leU32_any (v : Value) (l : List UInt8) (w : World) (hv : RdB w v l) (hk : 4 ≤ l.length) :
    Calls Tryz.prog 35 #[.agg #[], v] w fun e w' => e = .returned (.int .u32 (le32of l : Nat)) ∧ Grow w w' := by
  obtain ⟨g, o, c, b0, b1, b2, b3, r, rfl, rfl, c0, c1, c2, c3⟩ := cells4 hv hk
  have h0 : b0.toNat < 256 := b0.toNat_lt
  have h1 : b1.toNat < 256 := b1.toNat_lt
  have h2 : b2.toNat < 256 := b2.toNat_lt
  have h3 : b3.toNat < 256 := b3.toNat_lt
  have hn : 4 ≤ (b0 :: b1 :: b2 :: b3 :: r).length := hk
  clear hv hk
  generalize (b0 :: b1 :: b2 :: b3 :: r).length = n at hn
  have n0 : 0 < n := by omega
  have n1 : (1 : Int) < (n : Int) := by omega
  have n2 : (2 : Int) < (n : Int) := by omega
  have n3 : (3 : Int) < (n : Int) := by omega
  have d0 : ∀ w1, Grow (w.alloc (.cells #[] 135)).drew w1 → w1.cell? ⟨g, o, none⟩ = some (.int .u8 b0.toNat) := fun w1 hw => cell_grow ((grow_alloc w _).trans (grow_drew hw)) c0
  have d1 : ∀ w1, Grow (w.alloc (.cells #[] 135)).drew w1 → w1.cell? ⟨g, o + 1, none⟩ = some (.int .u8 b1.toNat) := fun w1 hw => cell_grow ((grow_alloc w _).trans (grow_drew hw)) c1
  have d2 : ∀ w1, Grow (w.alloc (.cells #[] 135)).drew w1 → w1.cell? ⟨g, o + 2, none⟩ = some (.int .u8 b2.toNat) := fun w1 hw => cell_grow ((grow_alloc w _).trans (grow_drew hw)) c2
  have d3 : ∀ w1, Grow (w.alloc (.cells #[] 135)).drew w1 → w1.cell? ⟨g, o + 3, none⟩ = some (.int .u8 b3.toNat) := fun w1 hw => cell_grow ((grow_alloc w _).trans (grow_drew hw)) c3
  have e3 := cell_grow (grow_alloc w (.cells #[] 135)) c3
  go_enter Tryz.func35, Tryz.ntmps35
  go_wp2
  refine wp_region_calm 22 30 Tryz.mixed rfl (by kernel_rfl) ?_
  simp only [List.take_succ_cons, List.take_zero, List.drop_succ_cons, List.drop_zero]
  iterate 22
    apply calm_val (D' := []) (hD := rfl)
    · intro w1 hw1
      simp only [fillAll]
      go_simp
      exact ⟨rfl, Grow.refl _⟩
    simp only [Act.put, List.setIfInBounds_toArray, List.set_cons_succ, List.set_cons_zero]
  intro w1 hw1
  simp only [fillAll]
  go_wp2
  go_ret
  refine ⟨?_, (grow_alloc w _).trans (grow_drew hw1)⟩
  refine ret_int (b := ((b0.toNat + b1.toNat * 256 + b2.toNat * 65536 + b3.toNat * 16777216 : Nat) : Int)) ?_
  simp (disch := omega) only [u32_wrap_id, u32_or8, u32_or16, u32_or24]
  omega

set_option maxRecDepth 20000 in
set_option maxHeartbeats 1000000 in
theorem beU16_any (v : Value) (l : List UInt8) (w : World) (hv : RdB w v l) (hk : 2 ≤ l.length) :
    Calls Tryz.prog 37 #[.agg #[], v] w fun e w' => e = .returned (.int .u16 (u16of l : Nat)) ∧ Grow w w' := by
  obtain ⟨g, o, c, b0, b1, r, rfl, rfl, c0, c1⟩ := cells2 hv hk
  have h0 : b0.toNat < 256 := b0.toNat_lt
  have h1 : b1.toNat < 256 := b1.toNat_lt
  have hn : 2 ≤ (b0 :: b1 :: r).length := hk
  clear hv hk
  generalize (b0 :: b1 :: r).length = n at hn
  have n0 : 0 < n := by omega
  have n1 : (1 : Int) < (n : Int) := by omega
  have d0 : ∀ w1, Grow (w.alloc (.cells #[] 136)).drew w1 → w1.cell? ⟨g, o, none⟩ = some (.int .u8 b0.toNat) := fun w1 hw => cell_grow ((grow_alloc w _).trans (grow_drew hw)) c0
  have d1 : ∀ w1, Grow (w.alloc (.cells #[] 136)).drew w1 → w1.cell? ⟨g, o + 1, none⟩ = some (.int .u8 b1.toNat) := fun w1 hw => cell_grow ((grow_alloc w _).trans (grow_drew hw)) c1
  have e1 := cell_grow (grow_alloc w (.cells #[] 136)) c1
  go_enter Tryz.func37, Tryz.ntmps37
  go_wp2
  refine wp_region_calm 10 18 Tryz.mixed rfl (by kernel_rfl) ?_
  simp only [List.take_succ_cons, List.take_zero, List.drop_succ_cons, List.drop_zero]
  iterate 10
    apply calm_val (D' := []) (hD := rfl)
    · intro w1 hw1
      simp only [fillAll]
      go_simp
      exact ⟨rfl, Grow.refl _⟩
    simp only [Act.put, List.setIfInBounds_toArray, List.set_cons_succ, List.set_cons_zero]
  intro w1 hw1
  simp only [fillAll]
  go_wp2
  go_ret
  refine ⟨?_, (grow_alloc w _).trans (grow_drew hw1)⟩
  refine ret_int (b := ((b0.toNat * 256 + b1.toNat : Nat) : Int)) ?_
  simp (disch := omega) only [u16_wrap_id, u16_or8]
  omega

end Go.Proofs.YtdpmbchamefkmaaGreatDoor
