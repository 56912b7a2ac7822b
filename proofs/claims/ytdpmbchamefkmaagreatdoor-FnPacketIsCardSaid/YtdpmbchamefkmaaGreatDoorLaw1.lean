/-
What the laws ask of a selective acknowledgement.
-/
import Derived.Test.YtdpmbchamefkmaaGreatDoorPkt0
import Derived.Deep.DeepCutAuto
import Derived.Deep.CutRange
import Derived.Handy
namespace Go.Proofs.YtdpmbchamefkmaaGreatDoor
open Go.RowKit

/-- pairs of whole numbers, as a slice's cells -/
def intC (p : Int × Int) : List Value := [.int .i64 p.1, .int .i64 p.2]
def intCells (gs : List (Int × Int)) : List Value := (gs.map intC).flatten
theorem intCells_length (gs : List (Int × Int)) : (intCells gs).length = 2 * gs.length := flat_length intC 2 (fun _ => rfl) gs
theorem intCells_get (gs : List (Int × Int)) (k : Nat) (hk : k < gs.length) : (intCells gs)[2 * k]? = some (.int .i64 gs[k].1) ∧ (intCells gs)[2 * k + 1]? = some (.int .i64 gs[k].2) := by
  have h := flat_drop intC 2 (fun _ => rfl) gs k hk
  change (intCells gs).drop (2 * k) = _ at h
  constructor
  · have : ((intCells gs).drop (2 * k))[0]? = some (.int .i64 gs[k].1) := by rw [h]; simp [intC]
    simpa using this
  · have : ((intCells gs).drop (2 * k))[1]? = some (.int .i64 gs[k].2) := by rw [h]; simp [intC]
    simpa using this

set_option maxRecDepth 20000 in
set_option maxHeartbeats 1000000 in
theorem zzFits3_any (tsn win : Nat) (ga da : Option Addr) (G gc D dc : Nat) (w : World) :
    Calls Tryz.prog 6 #[.agg #[.int .u32 tsn, .int .u32 win, .slice ga G gc, .slice da D dc]] w fun e w' => e = .returned (.bool (decide (G ≤ 2147483647 ∧ D ≤ 2147483647))) ∧ Grow w w' := by
  go_enter Tryz.func6, Tryz.ntmps6
  by_cases hG : G ≤ 2147483647
  · have hG' : (G : Int) ≤ 2147483647 := by omega
    by_cases hD : D ≤ 2147483647
    · have hD' : (D : Int) ≤ 2147483647 := by omega
      go_wp2
      go_ret
      exact ⟨by simp [hG, hD], grow_alloc _ _⟩
    · have hD' : ¬ (D : Int) ≤ 2147483647 := by omega
      go_wp2
      go_ret
      exact ⟨by simp, grow_alloc _ _⟩
  · have hG' : ¬ (G : Int) ≤ 2147483647 := by omega
    go_wp2
    go_ret
    exact ⟨by simp, grow_alloc _ _⟩

/-- an answer that bears P where it is yes -/
def Ans (P : Prop) (w : World) (e : Ending) (w' : World) : Prop := ∃ r : Bool, e = .returned (.bool r) ∧ (r = true → P) ∧ Grow w w'

/-- what IsSack asks -/
def SackOk (gs : List (Int × Int)) (D : Nat) : Prop := gs.length ≤ 1000 ∧ D ≤ 1000 ∧ ∀ p ∈ gs, 0 ≤ p.1 ∧ p.1 ≤ 65535 ∧ 0 ≤ p.2 ∧ p.2 ≤ 65535

set_option maxRecDepth 20000 in
set_option maxHeartbeats 2000000 in
theorem isSack_any (tsn win : Nat) (gs : List (Int × Int)) (ga da : Option Addr) (gc D dc : Nat) (w : World) (hr : Rd w 2 (.slice ga gs.length gc) gs.length (intCells gs)) :
    Calls Tryz.prog 7 #[.agg #[.int .u32 tsn, .int .u32 win, .slice ga gs.length gc, .slice da D dc]] w (Ans (SackOk gs D) w) := by
  obtain ⟨G, hG⟩ : ∃ G, G = gs.length := ⟨_, rfl⟩
  rw [← hG] at hr ⊢
  have HG := Lib.hid hG
  clear hG
  by_cases hG1 : G ≤ 1000
  · by_cases hD1 : D ≤ 1000
    · have hG' : (G : Int) ≤ 1000 := by omega
      have hD' : (D : Int) ≤ 1000 := by omega
      go_enter Tryz.func7, Tryz.ntmps7
      go_wp2
      go_loopw [18] (fun i wr => ∃ k : Nat, k ≤ G ∧ i = .int .i64 k ∧ (∀ p ∈ gs.take k, 0 ≤ p.1 ∧ p.1 ≤ 65535 ∧ 0 ≤ p.2 ∧ p.2 ≤ 65535) ∧ Grow w wr) (fun i _ => G - (intOf i).toNat)
      case atStart => exact ⟨0, by omega, rfl, by simp, grow_alloc _ _⟩
      case round =>
        obtain ⟨k, hk, rfl, hall, hgr⟩ := hrel
        by_cases hlt : k < G
        · have hkg : k < gs.length := by rw [← HG.out]; exact hlt
          obtain ⟨h0, h1⟩ := intCells_get gs k hkg
          obtain ⟨g, o, c, hv, _, hcell⟩ := Rd.at hr (by omega)
          have q0 := cell_grow hgr (hcell _ _ h0)
          have q1 := cell_grow hgr (hcell _ _ h1)
          have htk : gs.take (k + 1) = gs.take k ++ [gs[k]] := by rw [List.take_add_one, List.getElem?_eq_getElem hkg]; rfl
          have hmem : gs[k] ∈ gs := List.getElem_mem hkg
          simp only [Value.slice.injEq] at hv
          obtain ⟨rfl, _, rfl⟩ := hv
          obtain ⟨⟨x, y⟩, hp⟩ : ∃ p, p = gs[k] := ⟨_, rfl⟩
          rw [← hp] at q0 q1 htk hmem
          simp only [] at q0 q1
          rw [Nat.mul_comm 2 k] at q0
          rw [Nat.mul_comm 2 k, ← Nat.add_assoc] at q1
          have hltI : (k : Int) < (G : Int) := by omega
          clear hp
          by_cases hx0 : x < 0
          · go_wp2
            go_ret
            exact ⟨false, rfl, by simp, hgr.trans (grow_alloc _ _)⟩
          by_cases hx1 : 65535 < x
          · go_wp2
            go_ret
            exact ⟨false, rfl, by simp, hgr.trans (grow_alloc _ _)⟩
          by_cases hy0 : y < 0
          · go_wp2
            go_ret
            exact ⟨false, rfl, by simp, hgr.trans (grow_alloc _ _)⟩
          by_cases hy1 : 65535 < y
          · go_wp2
            go_ret
            exact ⟨false, rfl, by simp, hgr.trans (grow_alloc _ _)⟩
          have HTK := Lib.hid htk
          have HALL := Lib.hid hall
          clear htk hall
          go_wp2
          go_roundw
          case rel => exact ⟨k + 1, by omega, by go_num, by rw [HTK.out]; intro p hp; rcases List.mem_append.1 hp with h | h; exact HALL.out p h; simp at h; subst h; simp only []; omega, hgr.trans (grow_alloc _ _)⟩
          case measure => simp [intOf]; omega
        · obtain rfl : G = k := by omega
          have hyes : SackOk gs D := ⟨by rw [← HG.out]; exact hG1, hD1, by rw [HG.out, List.take_length] at hall; exact hall⟩
          have HY := Lib.hid hyes
          clear hyes hall
          go_wp2
          go_ret
          exact ⟨true, rfl, fun _ => HY.out, hgr⟩
    · have hD' : ¬ (D : Int) ≤ 1000 := by omega
      have hG' : (G : Int) ≤ 1000 := by omega
      go_enter Tryz.func7, Tryz.ntmps7
      go_wp2
      go_ret
      exact ⟨false, rfl, by simp, grow_alloc _ _⟩
  · have hG' : ¬ (G : Int) ≤ 1000 := by omega
    go_enter Tryz.func7, Tryz.ntmps7
    go_wp2
    go_ret
    exact ⟨false, rfl, by simp, grow_alloc _ _⟩
end Go.Proofs.YtdpmbchamefkmaaGreatDoor
