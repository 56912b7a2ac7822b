/-
What the laws ask of their arguments, all together.
-/
import Derived.Test.YtdpmbchamefkmaaGreatDoorSpec11
namespace Go.Proofs.YtdpmbchamefkmaaGreatDoor
open Go.RowKit

def Dat.val (d : Dat) : Value := .agg #[.bool d.un, .bool d.be, .bool d.en, .bool d.im, .int .u32 (d.tsn : Nat), .int .i64 d.sid, .int .i64 d.seq, .int .u32 (d.ppi : Nat), .slice d.ua d.user.length d.uc]

set_option maxRecDepth 20000 in
set_option maxHeartbeats 1000000 in
theorem zzFits2_any (c0 c1 c2 c3 c4 c5 c6 c7 : Value) (ua : Option Addr) (U uc : Nat) (w : World) : Calls Tryz.prog 24 #[.agg #[c0, c1, c2, c3, c4, c5, c6, c7, .slice ua U uc]] w (Ans True w) := by
  go_enter Tryz.func24, Tryz.ntmps24
  by_cases hG : U ≤ 2147483647
  · have hG' : (U : Int) ≤ 2147483647 := by omega
    go_wp2
    go_ret
    exact ⟨true, rfl, fun _ => trivial, grow_alloc _ _⟩
  · have hG' : ¬ (U : Int) ≤ 2147483647 := by omega
    go_wp2
    go_ret
    exact ⟨false, rfl, fun _ => trivial, grow_alloc _ _⟩

set_option maxRecDepth 20000 in
set_option maxHeartbeats 1000000 in
theorem zzFits4_any (tsn : Nat) (ga : Option Addr) (G gc : Nat) (w : World) : Calls Tryz.prog 12 #[.agg #[.int .u32 tsn, .slice ga G gc]] w (Ans True w) := by
  go_enter Tryz.func12, Tryz.ntmps12
  by_cases hG : G ≤ 2147483647
  · have hG' : (G : Int) ≤ 2147483647 := by omega
    go_wp2
    go_ret
    exact ⟨true, rfl, fun _ => trivial, grow_alloc _ _⟩
  · have hG' : ¬ (G : Int) ≤ 2147483647 := by omega
    go_wp2
    go_ret
    exact ⟨false, rfl, fun _ => trivial, grow_alloc _ _⟩

theorem dat_cells (ds : List Dat) (k : Nat) (hk : k < ds.length) {w : World} {g o : Nat} (h : ∀ j u, (datCells ds)[j]? = some u → w.cell? ⟨g, o + j, none⟩ = some u) :
    w.cell? ⟨g, o + 9 * k, none⟩ = some (.bool ds[k].un) ∧ w.cell? ⟨g, o + 9 * k + 1, none⟩ = some (.bool ds[k].be) ∧ w.cell? ⟨g, o + 9 * k + 2, none⟩ = some (.bool ds[k].en) ∧ w.cell? ⟨g, o + 9 * k + 3, none⟩ = some (.bool ds[k].im) ∧
      w.cell? ⟨g, o + 9 * k + 4, none⟩ = some (.int .u32 (ds[k].tsn : Nat)) ∧ w.cell? ⟨g, o + 9 * k + 5, none⟩ = some (.int .i64 ds[k].sid) ∧ w.cell? ⟨g, o + 9 * k + 6, none⟩ = some (.int .i64 ds[k].seq) ∧
      w.cell? ⟨g, o + 9 * k + 7, none⟩ = some (.int .u32 (ds[k].ppi : Nat)) ∧ w.cell? ⟨g, o + 9 * k + 8, none⟩ = some (.slice ds[k].ua ds[k].user.length ds[k].uc) := by
  have e : ∀ j, o + 9 * k + j = o + (9 * k + j) := fun j => by omega
  refine ⟨?_, ?_, ?_, ?_, ?_, ?_, ?_, ?_, ?_⟩
  · exact h _ _ (datCells_get ds k hk 0 _ rfl)
  all_goals rw [e]
  · exact h _ _ (datCells_get ds k hk 1 _ rfl)
  · exact h _ _ (datCells_get ds k hk 2 _ rfl)
  · exact h _ _ (datCells_get ds k hk 3 _ rfl)
  · exact h _ _ (datCells_get ds k hk 4 _ rfl)
  · exact h _ _ (datCells_get ds k hk 5 _ rfl)
  · exact h _ _ (datCells_get ds k hk 6 _ rfl)
  · exact h _ _ (datCells_get ds k hk 7 _ rfl)
  · exact h _ _ (datCells_get ds k hk 8 _ rfl)

set_option maxRecDepth 20000 in
set_option maxHeartbeats 2000000 in
theorem zzFits1_any (ds : List Dat) (da : Option Addr) (dc : Nat) (w : World) (hr : RdD w (.slice da ds.length dc) ds) : Calls Tryz.prog 11 #[.slice da ds.length dc] w (Ans True w) := by
  obtain ⟨D, hD⟩ : ∃ D, D = ds.length := ⟨_, rfl⟩
  have hr := hr.1
  rw [← hD] at hr ⊢
  have HD := Lib.hid hD
  clear hD
  by_cases hD1 : D ≤ 2147483647
  · have hD' : (D : Int) ≤ 2147483647 := by omega
    go_enter Tryz.func11, Tryz.ntmps11
    go_wp2
    go_loopw [10] (fun i wr => ∃ k : Nat, k ≤ D ∧ i = .int .i64 k ∧ Grow w wr) (fun i _ => D - (intOf i).toNat)
    case atStart => exact ⟨0, by omega, rfl, Grow.refl _⟩
    case round =>
      obtain ⟨k, hk, rfl, hgr⟩ := hrel
      by_cases hlt : k < D
      · have hkd : k < ds.length := by rw [← HD.out]; exact hlt
        obtain ⟨g, o, c, hv, _, hcell⟩ := Rd.at hr (by omega)
        obtain ⟨q0, q1, q2, q3, q4, q5, q6, q7, q8⟩ := dat_cells ds k hkd (fun j u hu => cell_grow hgr (hcell j u hu))
        rw [Nat.mul_comm 9 k] at q0 q1 q2 q3 q4 q5 q6 q7 q8
        simp only [Value.slice.injEq] at hv
        obtain ⟨rfl, hv2, rfl⟩ := hv
        obtain ⟨d, hd⟩ : ∃ d, d = ds[k] := ⟨_, rfl⟩
        rw [← hd] at q0 q1 q2 q3 q4 q5 q6 q7 q8
        obtain ⟨U, hU⟩ : ∃ U, U = d.user.length := ⟨_, rfl⟩
        rw [← hU] at q8
        have hltI : (k : Int) < (D : Int) := by omega
        clear hv2 hcell hd hU
        go_wp2_with (go_at_call 24; (with_reducible refine (zzFits2_any _ _ _ _ _ _ _ _ d.ua U d.uc _).mono ?_); rintro e w1 ⟨r, rfl, _, hg1⟩; cases r)
        · go_ret
          exact ⟨false, rfl, fun _ => trivial, hgr.trans ((grow_alloc _ _).trans hg1)⟩
        · go_wp2
          go_roundw
          case rel => exact ⟨k + 1, by omega, by go_num, hgr.trans ((grow_alloc _ _).trans hg1)⟩
          case measure => simp [intOf]; omega
      · obtain rfl : D = k := by omega
        go_wp2
        go_ret
        exact ⟨true, rfl, fun _ => trivial, hgr⟩
  · have hD' : ¬ (D : Int) ≤ 2147483647 := by omega
    go_enter Tryz.func11, Tryz.ntmps11
    go_wp2
    go_ret
    exact ⟨false, rfl, fun _ => trivial, Grow.refl _⟩

/-- what 'are' asks -/
def AreOk (ds : List Dat) (gs : List (Int × Int)) (D : Nat) (ss : List (Int × Int)) : Prop := ds.length ≤ 4 ∧ SackOk gs D ∧ FwdOk ss ∧ ∀ d ∈ ds, DatOk d.sid d.seq d.user.length

set_option maxRecDepth 100000 in
set_option maxHeartbeats 4000000 in
theorem are_any (ds : List Dat) (da : Option Addr) (dc : Nat) (tsn win : Nat) (gs : List (Int × Int)) (ga ta : Option Addr) (gc T tc : Nat) (ftsn : Nat) (ss : List (Int × Int)) (sa : Option Addr) (sc : Nat) (w : World)
    (hr : RdD w (.slice da ds.length dc) ds) (hg : Rd w 2 (.slice ga gs.length gc) gs.length (intCells gs)) (hs : Rd w 2 (.slice sa ss.length sc) ss.length (intCells ss)) :
    Calls Tryz.prog 13 #[.slice da ds.length dc, .agg #[.int .u32 tsn, .int .u32 win, .slice ga gs.length gc, .slice ta T tc], .agg #[.int .u32 ftsn, .slice sa ss.length sc]] w (Ans (AreOk ds gs T ss) w) := by
  have hc7 := fun w' (h : Grow w w') => isSack_any tsn win gs ga ta gc T tc w' (hg.grow h)
  have hc25 := fun w' (h : Grow w w') => isForward_any ftsn ss sa sc w' (hs.grow h)
  obtain ⟨D, hD⟩ : ∃ D, D = ds.length := ⟨_, rfl⟩
  obtain ⟨G, hG⟩ : ∃ G, G = gs.length := ⟨_, rfl⟩
  obtain ⟨S, hS⟩ : ∃ S, S = ss.length := ⟨_, rfl⟩
  have hr := hr.1
  rw [← hD] at hr ⊢
  rw [← hG] at hc7 ⊢
  rw [← hS] at hc25 ⊢
  have HD := Lib.hid hD
  clear hD hG hS hg hs
  go_enter Tryz.func13, Tryz.ntmps13
  go_upto_region 1 with fail
  have hbx := Blk.new w 26 [.int .u32 tsn, .int .u32 win, .slice ga G gc, .slice ta T tc]
  have hby := Blk.new (w.alloc (.cells #[.int .u32 tsn, .int .u32 win, .slice ga G gc, .slice ta T tc] 26)) 37 [.int .u32 ftsn, .slice sa S sc]
  have hbx := hbx.alloc (.cells #[.int .u32 ftsn, .slice sa S sc] 37)
  obtain ⟨x, hx⟩ : ∃ x, x = w.heap.size := ⟨_, rfl⟩
  have hsz : ∀ o : Obj, (w.alloc o).heap.size = w.heap.size + 1 := fun o => by simp
  rw [hsz] at hby
  clear hsz
  rw [← hx] at hbx hby ⊢
  refine wp_at (fun w' => Blk w' x 26 [.int .u32 tsn, .int .u32 win, .slice ga G gc, .slice ta T tc] ∧ Blk w' (x + 1) 37 [.int .u32 ftsn, .slice sa S sc] ∧ Grow w w') ⟨hbx, hby, (grow_alloc _ _).trans (grow_alloc _ _)⟩ ?_
  clear hbx hby hx
  rintro w0 ⟨hbx, hby, hg0⟩
  have x0 := hbx.cell 0 _ rfl
  have x1 := hbx.cell 1 _ rfl
  have x2 := hbx.cell 2 _ rfl
  have x3 := hbx.cell 3 _ rfl
  by_cases hD4 : D ≤ 4
  · have hD' : (D : Int) ≤ 4 := by omega
    have hc7 := hc7 w0 hg0
    go_upto_region 3 with (first | (go_at_call 7; (with_reducible refine hc7.mono ?_); rintro e w1 ⟨r7, rfl, him7, hg7⟩; have y0 := (hby.grow hg7).cell 0 _ rfl; have y1 := (hby.grow hg7).cell 1 _ rfl; cases r7) | (go_at_call 25; (with_reducible refine (hc25 _ (hg0.trans hg7)).mono ?_); rintro e w2 ⟨r25, rfl, him25, hg25⟩; cases r25))
    · go_wp2
      go_ret
      exact ⟨false, rfl, by simp, hg0.trans hg7⟩
    · go_wp2
      go_ret
      exact ⟨false, rfl, by simp, (hg0.trans hg7).trans hg25⟩
    have ok7 : SackOk gs T := by simpa using him7
    have ok25 : FwdOk ss := by simpa using him25
    have HO7 := Lib.hid ok7
    have HO25 := Lib.hid ok25
    have hg2 := (hg0.trans hg7).trans hg25
    clear him7 him25 ok7 ok25 x0 x1 x2 x3 y0 y1 hbx hby hc7 hc25 hg7 hg25 hg0
    go_wp2
    go_loopw [24] (fun i wr => ∃ k : Nat, k ≤ D ∧ i = .int .i64 k ∧ (∀ d ∈ ds.take k, DatOk d.sid d.seq d.user.length) ∧ Grow w wr) (fun i _ => D - (intOf i).toNat)
    case atStart => exact ⟨0, by omega, rfl, by simp, hg2⟩
    case round =>
      clear hg2
      obtain ⟨k, hk, rfl, hall, hgr⟩ := hrel
      by_cases hlt : k < D
      · have hkd : k < ds.length := by rw [← HD.out]; exact hlt
        obtain ⟨g, o, c, hv, _, hcell⟩ := Rd.at hr (by omega)
        obtain ⟨q0, q1, q2, q3, q4, q5, q6, q7, q8⟩ := dat_cells ds k hkd (fun j u hu => cell_grow hgr (hcell j u hu))
        rw [Nat.mul_comm 9 k] at q0 q1 q2 q3 q4 q5 q6 q7 q8
        simp only [Value.slice.injEq] at hv
        obtain ⟨rfl, hv2, rfl⟩ := hv
        have htk : ds.take (k + 1) = ds.take k ++ [ds[k]] := by rw [List.take_add_one, List.getElem?_eq_getElem hkd]; rfl
        obtain ⟨d, hd⟩ : ∃ d, d = ds[k] := ⟨_, rfl⟩
        rw [← hd] at q0 q1 q2 q3 q4 q5 q6 q7 q8 htk
        obtain ⟨U, hU⟩ : ∃ U, U = d.user.length := ⟨_, rfl⟩
        rw [← hU] at q8
        have HU := Lib.hid hU
        have HTK := Lib.hid htk
        have HALL := Lib.hid hall
        have hltI : (k : Int) < (D : Int) := by omega
        clear hv2 hcell hd hU htk hall
        go_wp2_with (go_at_call 26; (with_reducible refine (isData_any _ _ _ _ _ _ d.sid d.seq d.ua U d.uc _).mono ?_); rintro e w1 ⟨r, rfl, him, hg1⟩; cases r)
        · go_ret
          exact ⟨false, rfl, by simp, hgr.trans ((grow_alloc _ _).trans hg1)⟩
        · have ok : DatOk d.sid d.seq U := by simpa using him
          clear him
          go_wp2
          go_roundw
          case rel => exact ⟨k + 1, by omega, by go_num, by rw [HTK.out]; intro d' hd'; rcases List.mem_append.1 hd' with h | h; exact HALL.out d' h; simp at h; subst h; rw [← HU.out]; exact ok, hgr.trans ((grow_alloc _ _).trans hg1)⟩
          case measure => simp [intOf]; omega
      · obtain rfl : D = k := by omega
        have hyes : AreOk ds gs T ss := ⟨by rw [← HD.out]; exact hD4, HO7.out, HO25.out, by rw [HD.out, List.take_length] at hall; exact hall⟩
        have HY := Lib.hid hyes
        clear hyes hall
        go_wp2
        go_ret
        exact ⟨true, rfl, fun _ => HY.out, hgr⟩
  · have hD' : ¬ (D : Int) ≤ 4 := by omega
    go_wp2
    go_ret
    exact ⟨false, rfl, by simp, hg0⟩
end Go.Proofs.YtdpmbchamefkmaaGreatDoor
