/-
The arguments as they come in.
-/
import Derived.Test.YtdpmbchamefkmaaGreatDoorLaw1
import Derived.ProofKit
import Derived.Deep.Slices
import Derived.OpenShut
namespace Go.Proofs.YtdpmbchamefkmaaGreatDoor
open Go.ChangeShapes Go.WideShapes Go.ChangeAt Go.RowKit Go.Deep

theorem Tryz.cells48 : Tryz.prog.cellsOf 48 = 2 := by kernel_rfl
theorem Tryz.cells22 : Tryz.prog.cellsOf 22 = 1 := by kernel_rfl
theorem Tryz.cells3 : Tryz.prog.cellsOf 3 = 1 := by kernel_rfl

theorem add_mk (g o j : Nat) : (⟨g, o, none⟩ : Addr).add j = ⟨g, o + j, none⟩ := by unfold Addr.add; split <;> simp_all

variable {H : Type} {enc : TypeId × Value → H} {W : World} {sp : Nat → Bool} {held : Bool}

set_option maxRecDepth 20000 in
theorem pair_of_trod {n : Nat} {cs : List Value} {y : DataW H × List MemPlace} (h : DataW.trod enc Tryz.prog W 0 sp held n 48 cs = some y) : ∃ p : Int × Int, cs = intC p := by
  obtain ⟨xs, m, rfl, _, hl, hxl, hx⟩ := DataW.trod_array Tryz.underlying48 h
  rw [Tryz.cells48] at hl
  obtain ⟨c0, c1, rfl⟩ : ∃ c0 c1, cs = [c0, c1] := by
    rcases cs with _ | ⟨c0, _ | ⟨c1, _ | ⟨c2, r⟩⟩⟩
    · simp at hl
    · simp at hl
    · exact ⟨c0, c1, rfl⟩
    · simp at hl
  have h0 := hx 0 (by omega)
  have h1 := hx 1 (by omega)
  rw [Tryz.cells3, List.getElem?_eq_getElem (by omega)] at h0 h1
  simp only [Nat.zero_mul, Nat.one_mul, List.drop_zero, List.take_succ_cons, List.take_zero, List.drop_succ_cons] at h0 h1
  obtain ⟨k0, e0, _⟩ := DataW.trod_int Tryz.underlying3 h0
  obtain ⟨k1, e1, _⟩ := DataW.trod_int Tryz.underlying3 h1
  simp only [List.cons.injEq, and_true] at e0 e1
  exact ⟨(k0, k1), by rw [e0, e1]; rfl⟩

theorem arg_gaps {n : Nat} {cs : List Value} {y : DataW H × List MemPlace} (h : DataW.trod enc Tryz.prog W 0 sp held n 23 cs = some y) :
    ∃ (ga : Option Addr) (gc : Nat) (gs : List (Int × Int)), cs = [.slice ga gs.length gc] ∧ Rd W 2 (.slice ga gs.length gc) gs.length (intCells gs) := by
  rcases open_slice Tryz.underlying23 h with ⟨rfl, _⟩ | ⟨a, len, cap, m, n', D, Pl, rfl, _, hl, hmx, hm, _, hx⟩
  · exact ⟨none, 0, [], rfl, by simp [intCells], .inl ⟨none, 0, rfl, rfl, fun _ => rfl⟩⟩
  have hlm : len ≤ m := by rw [hm]; split <;> omega
  obtain ⟨V, hV⟩ := choose_lt (α := Int × Int) (p := fun i p => W.cell? ((a.add (i * 2)).add 0) = some (.int .i64 p.1) ∧ W.cell? ((a.add (i * 2)).add 1) = some (.int .i64 p.2)) (n := len) (fun i hi => by
    obtain ⟨cs', h1, h2⟩ := hx i (by omega)
    obtain ⟨p, rfl⟩ := pair_of_trod h2
    rw [Tryz.cells48] at h1
    obtain ⟨_, _, h3⟩ := World.cells?_some h1
    exact ⟨p, by simpa [intC] using h3 0 (by omega), by simpa [intC] using h3 1 (by omega)⟩)
  have hgl : ((List.range len).map V).length = len := by simp
  refine ⟨some a, cap, (List.range len).map V, by rw [hgl], by rw [intCells_length]; omega, ?_⟩
  rw [hgl]
  by_cases h0 : len = 0
  · subst h0
    exact .inl ⟨some a, cap, rfl, rfl, fun he => by cases he⟩
  · obtain ⟨g, o, spot⟩ := a
    have hs : spot = none := by
      have := World.cell?_spot (hV 0 (by omega)).1
      simpa [Addr.add] using this
    subst hs
    refine .inr ⟨g, o, cap, rfl, hl, fun j u hj => ?_⟩
    have hjl : j < 2 * len := by have := (List.getElem?_eq_some_iff.1 hj).1; rw [intCells_length, hgl] at this; exact this
    have hk : j / 2 < ((List.range len).map V).length := by rw [hgl]; omega
    obtain ⟨q0, q1⟩ := intCells_get ((List.range len).map V) (j / 2) hk
    have hv := hV (j / 2) (by omega)
    rw [add_mk, add_mk, add_mk] at hv
    simp only [List.getElem_map, List.getElem_range] at q0 q1
    rcases Nat.mod_two_eq_zero_or_one j with hj2 | hj2
    · rw [show 2 * (j / 2) = j by omega, hj] at q0
      rw [Option.some.inj q0, ← hv.1]; congr 2; omega
    · rw [show 2 * (j / 2) + 1 = j by omega, hj] at q1
      rw [Option.some.inj q1, ← hv.2]; congr 2; omega

theorem arg_dups {n : Nat} {cs : List Value} {y : DataW H × List MemPlace} (h : DataW.trod enc Tryz.prog W 0 sp held n 24 cs = some y) :
    ∃ (da : Option Addr) (dc : Nat) (dups : List Nat), cs = [.slice da dups.length dc] ∧ Rd W 1 (.slice da dups.length dc) dups.length (dupCells dups) ∧ ∀ n ∈ dups, n < 4294967296 := by
  rcases open_ints Tryz.underlying24 Tryz.underlying22 Tryz.cells22 h with ⟨rfl, _⟩ | ⟨a, len, cap, zs, rfl, _, hl, hmx, hzl, _, hx, hwf⟩
  · exact ⟨none, 0, [], rfl, ⟨by simp [dupCells], .inl ⟨none, 0, rfl, rfl, fun _ => rfl⟩⟩, by simp⟩
  have hlm : len ≤ zs.length := by rw [hzl]; split <;> omega
  have hb : ∀ z ∈ zs, 0 ≤ z ∧ z < 4294967296 := fun z hz => by
    have := hwf z hz
    simp [Lit.wf, IntKind.min, IntKind.max, IntKind.signed, IntKind.bits] at this
    omega
  have hgl : ((zs.take len).map Int.toNat).length = len := by simp; omega
  refine ⟨some a, cap, (zs.take len).map Int.toNat, by rw [hgl], ⟨by rw [dupCells_length]; omega, ?_⟩, ?_⟩
  · rw [hgl]
    by_cases h0 : len = 0
    · subst h0
      exact .inl ⟨some a, cap, rfl, rfl, fun he => by cases he⟩
    · obtain ⟨g, o, spot⟩ := a
      have hs : spot = none := by
        have := World.cell?_spot (hx 0 (by omega))
        simpa [Addr.add] using this
      subst hs
      refine .inr ⟨g, o, cap, rfl, hl, fun j u hj => ?_⟩
      have hjl : j < len := by have := (List.getElem?_eq_some_iff.1 hj).1; rw [dupCells_length, hgl] at this; exact this
      have hv := hx j (by omega)
      rw [add_mk] at hv
      rw [dupCells_get _ j (by rw [hgl]; exact hjl)] at hj
      rw [← Option.some.inj hj, hv]
      have hz := hb zs[j] (List.getElem_mem (by omega))
      simp only [List.getElem_map, List.getElem_take]
      rw [List.getD_eq_getElem?_getD, List.getElem?_eq_getElem (by omega)]
      simp only [Option.getD_some]
      congr 2; omega
  · intro n hn
    obtain ⟨z, hz, rfl⟩ := List.mem_map.1 hn
    have := hb z (List.mem_of_mem_take hz)
    omega
end Go.Proofs.YtdpmbchamefkmaaGreatDoor
