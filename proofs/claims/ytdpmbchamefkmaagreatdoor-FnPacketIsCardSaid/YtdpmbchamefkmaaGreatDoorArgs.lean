/-
The arguments as they come in.
-/
import Derived.Test.YtdpmbchamefkmaaGreatDoorLaw1
import Derived.ProofKit
import Derived.Deep.Slices
import Derived.OpenShut
namespace Go.Proofs.YtdpmbchamefkmaaGreatDoor
open Go.ChangeShapes Go.WideShapes Go.ChangeAt Go.RowKit Go.Deep

theorem Tryz.cells48 : Tryz.prog.cellsOf 48 = 2 := by kernel_rfl
theorem Tryz.cells22 : Tryz.prog.cellsOf 22 = 1 := by kernel_rfl
theorem Tryz.cells3 : Tryz.prog.cellsOf 3 = 1 := by kernel_rfl

theorem add_mk (g o j : Nat) : (⟨g, o, none⟩ : Addr).add j = ⟨g, o + j, none⟩ := by unfold Addr.add; split <;> simp_all

variable {H : Type} {enc : TypeId × Value → H} {W : World} {sp : Nat → Bool} {held : Bool}

set_option maxRecDepth 20000 in
theorem pair_of_trod {n : Nat} {cs : List Value} {y : DataW H × List MemPlace} (h : DataW.trod enc Tryz.prog W 0 sp held n 48 cs = some y) : ∃ p : Int × Int, cs = intC p := by
  obtain ⟨xs, m, rfl, _, hl, hxl, hx⟩ := DataW.trod_array Tryz.underlying48 h
  rw [Tryz.cells48] at hl
  obtain ⟨c0, c1, rfl⟩ : ∃ c0 c1, cs = [c0, c1] := by
    rcases cs with _ | ⟨c0, _ | ⟨c1, _ | ⟨c2, r⟩⟩⟩
    · simp at hl
    · simp at hl
    · exact ⟨c0, c1, rfl⟩
    · simp at hl
  have h0 := hx 0 (by omega)
  have h1 := hx 1 (by omega)
  rw [Tryz.cells3, List.getElem?_eq_getElem (by omega)] at h0 h1
  simp only [Nat.zero_mul, Nat.one_mul, List.drop_zero, List.take_succ_cons, List.take_zero, List.drop_succ_cons] at h0 h1
  obtain ⟨k0, e0, _⟩ := DataW.trod_int Tryz.underlying3 h0
  obtain ⟨k1, e1, _⟩ := DataW.trod_int Tryz.underlying3 h1
  simp only [List.cons.injEq, and_true] at e0 e1
  exact ⟨(k0, k1), by rw [e0, e1]; rfl⟩

theorem arg_gaps {n : Nat} {cs : List Value} {y : DataW H × List MemPlace} (h : DataW.trod enc Tryz.prog W 0 sp held n 23 cs = some y) :
    ∃ (ga : Option Addr) (gc : Nat) (gs : List (Int × Int)), cs = [.slice ga gs.length gc] ∧ Rd W 2 (.slice ga gs.length gc) gs.length (intCells gs) := by
  rcases open_slice Tryz.underlying23 h with ⟨rfl, _⟩ | ⟨a, len, cap, m, n', D, Pl, rfl, _, hl, hmx, hm, _, hx⟩
  · exact ⟨none, 0, [], rfl, by simp [intCells], .inl ⟨none, 0, rfl, rfl, fun _ => rfl⟩⟩
  have hlm : len ≤ m := by rw [hm]; split <;> omega
  obtain ⟨V, hV⟩ := choose_lt (α := Int × Int) (p := fun i p => W.cell? ((a.add (i * 2)).add 0) = some (.int .i64 p.1) ∧ W.cell? ((a.add (i * 2)).add 1) = some (.int .i64 p.2)) (n := len) (fun i hi => by
    obtain ⟨cs', h1, h2⟩ := hx i (by omega)
    obtain ⟨p, rfl⟩ := pair_of_trod h2
    rw [Tryz.cells48] at h1
    obtain ⟨_, _, h3⟩ := World.cells?_some h1
    exact ⟨p, by simpa [intC] using h3 0 (by omega), by simpa [intC] using h3 1 (by omega)⟩)
  have hgl : ((List.range len).map V).length = len := by simp
  refine ⟨some a, cap, (List.range len).map V, by rw [hgl], by rw [intCells_length]; omega, ?_⟩
  rw [hgl]
  by_cases h0 : len = 0
  · subst h0
    exact .inl ⟨some a, cap, rfl, rfl, fun he => by cases he⟩
  · obtain ⟨g, o, spot⟩ := a
    have hs : spot = none := by
      have := World.cell?_spot (hV 0 (by omega)).1
      simpa [Addr.add] using this
    subst hs
    refine .inr ⟨g, o, cap, rfl, hl, fun j u hj => ?_⟩
    have hjl : j < 2 * len := by have := (List.getElem?_eq_some_iff.1 hj).1; rw [intCells_length, hgl] at this; exact this
    have hk : j / 2 < ((List.range len).map V).length := by rw [hgl]; omega
    obtain ⟨q0, q1⟩ := intCells_get ((List.range len).map V) (j / 2) hk
    have hv := hV (j / 2) (by omega)
    rw [add_mk, add_mk, add_mk] at hv
    simp only [List.getElem_map, List.getElem_range] at q0 q1
    rcases Nat.mod_two_eq_zero_or_one j with hj2 | hj2
    · rw [show 2 * (j / 2) = j by omega, hj] at q0
      rw [Option.some.inj q0, ← hv.1]; congr 2; omega
    · rw [show 2 * (j / 2) + 1 = j by omega, hj] at q1
      rw [Option.some.inj q1, ← hv.2]; congr 2; omega

theorem arg_dups {n : Nat} {cs : List Value} {y : DataW H × List MemPlace} (h : DataW.trod enc Tryz.prog W 0 sp held n 24 cs = some y) :
    ∃ (da : Option Addr) (dc : Nat) (dups : List Nat), cs = [.slice da dups.length dc] ∧ Rd W 1 (.slice da dups.length dc) dups.length (dupCells dups) ∧ ∀ n ∈ dups, n < 4294967296 := by
  rcases open_ints Tryz.underlying24 Tryz.underlying22 Tryz.cells22 h with ⟨rfl, _⟩ | ⟨a, len, cap, zs, rfl, _, hl, hmx, hzl, _, hx, hwf⟩
  · exact ⟨none, 0, [], rfl, ⟨by simp [dupCells], .inl ⟨none, 0, rfl, rfl, fun _ => rfl⟩⟩, by simp⟩
  have hlm : len ≤ zs.length := by rw [hzl]; split <;> omega
  have hb : ∀ z ∈ zs, 0 ≤ z ∧ z < 4294967296 := fun z hz => by
    have := hwf z hz
    simp [Lit.wf, IntKind.min, IntKind.max, IntKind.signed, IntKind.bits] at this
    omega
  have hgl : ((zs.take len).map Int.toNat).length = len := by simp; omega
  refine ⟨some a, cap, (zs.take len).map Int.toNat, by rw [hgl], ⟨by rw [dupCells_length]; omega, ?_⟩, ?_⟩
  · rw [hgl]
    by_cases h0 : len = 0
    · subst h0
      exact .inl ⟨some a, cap, rfl, rfl, fun he => by cases he⟩
    · obtain ⟨g, o, spot⟩ := a
      have hs : spot = none := by
        have := World.cell?_spot (hx 0 (by omega))
        simpa [Addr.add] using this
      subst hs
      refine .inr ⟨g, o, cap, rfl, hl, fun j u hj => ?_⟩
      have hjl : j < len := by have := (List.getElem?_eq_some_iff.1 hj).1; rw [dupCells_length, hgl] at this; exact this
      have hv := hx j (by omega)
      rw [add_mk] at hv
      rw [dupCells_get _ j (by rw [hgl]; exact hjl)] at hj
      rw [← Option.some.inj hj, hv]
      have hz := hb zs[j] (List.getElem_mem (by omega))
      simp only [List.getElem_map, List.getElem_take]
      rw [List.getD_eq_getElem?_getD, List.getElem?_eq_getElem (by omega)]
      simp only [Option.getD_some]
      congr 2; omega
  · intro n hn
    obtain ⟨z, hz, rfl⟩ := List.mem_map.1 hn
    have := hb z (List.mem_of_mem_take hz)
    omega

/-- a chunk of user data, as a program's caller holds it -/
structure Dat where
  un : Bool
  be : Bool
  en : Bool
  im : Bool
  tsn : Nat
  sid : Int
  seq : Int
  ppi : Nat
  user : List UInt8
  ua : Option Addr
  uc : Nat

instance : Inhabited Dat := ⟨⟨false, false, false, false, 0, 0, 0, 0, [], none, 0⟩⟩

def Dat.cells (d : Dat) : List Value := [.bool d.un, .bool d.be, .bool d.en, .bool d.im, .int .u32 (d.tsn : Nat), .int .i64 d.sid, .int .i64 d.seq, .int .u32 (d.ppi : Nat), .slice d.ua d.user.length d.uc]
def datCells (ds : List Dat) : List Value := (ds.map Dat.cells).flatten
theorem datCells_length (ds : List Dat) : (datCells ds).length = 9 * ds.length := flat_length Dat.cells 9 (fun _ => rfl) ds
theorem datCells_get (ds : List Dat) (k : Nat) (hk : k < ds.length) (j : Nat) (u : Value) (hu : ds[k].cells[j]? = some u) : (datCells ds)[9 * k + j]? = some u := by
  have h := flat_drop Dat.cells 9 (fun _ => rfl) ds k hk
  change (datCells ds).drop (9 * k) = _ at h
  rw [← List.getElem?_drop, h, List.getElem?_append_left (by exact (List.getElem?_eq_some_iff.1 hu).1)]
  exact hu

/-- a row of them -/
def RdD (w : World) (v : Value) (ds : List Dat) : Prop := Rd w 9 v ds.length (datCells ds) ∧ ∀ d ∈ ds, RdB w (.slice d.ua d.user.length d.uc) d.user ∧ d.tsn < 4294967296 ∧ d.ppi < 4294967296
theorem RdD.grow {w w' : World} {v : Value} {ds : List Dat} (h : RdD w v ds) (hg : Grow w w') : RdD w' v ds := ⟨h.1.grow hg, fun d hd => ⟨(h.2 d hd).1.grow hg, (h.2 d hd).2⟩⟩

theorem Tryz.cells5 : Tryz.prog.cellsOf 5 = 1 := by kernel_rfl
theorem Tryz.cells59 : Tryz.prog.cellsOf 59 = 9 := by kernel_rfl
theorem Tryz.cells4 : Tryz.prog.cellsOf 4 = 1 := by kernel_rfl
theorem Tryz.cells28 : Tryz.prog.cellsOf 28 = 1 := by kernel_rfl
theorem Tryz.underlying35' : Tryz.prog.underlying 35 = some (.slice 59) := by kernel_rfl

variable {H : Type} {enc : TypeId × Value → H} {W : World} {sp : Nat → Bool} {held : Bool}

theorem arg_bytes {n : Nat} {cs : List Value} {y : DataW H × List MemPlace} (h : DataW.trod enc Tryz.prog W 0 sp held n 28 cs = some y) :
    ∃ (ua : Option Addr) (uc : Nat) (l : List UInt8), cs = [.slice ua l.length uc] ∧ RdB W (.slice ua l.length uc) l := by
  rcases open_ints Tryz.underlying28 Tryz.underlying5 Tryz.cells5 h with ⟨rfl, _⟩ | ⟨a, len, cap, zs, rfl, _, hl, hmx, hzl, _, hx, hwf⟩
  · exact ⟨none, 0, [], rfl, RdB.nil W⟩
  have hlm : len ≤ zs.length := by rw [hzl]; split <;> omega
  have hb : ∀ z ∈ zs, 0 ≤ z ∧ z < 256 := fun z hz => by
    have := hwf z hz
    simp [Lit.wf, IntKind.min, IntKind.max, IntKind.signed, IntKind.bits] at this
    omega
  have hgl : ((zs.take len).map fun z => UInt8.ofNat z.toNat).length = len := by simp; omega
  refine ⟨some a, cap, (zs.take len).map fun z => UInt8.ofNat z.toNat, by rw [hgl], ⟨by rw [bc_length]; omega, ?_⟩⟩
  rw [hgl]
  by_cases h0 : len = 0
  · subst h0
    exact .inl ⟨some a, cap, rfl, rfl, fun he => by cases he⟩
  · obtain ⟨g, o, spot⟩ := a
    have hs : spot = none := by
      have := World.cell?_spot (hx 0 (by omega))
      simpa [Addr.add] using this
    subst hs
    refine .inr ⟨g, o, cap, rfl, hl, fun j u hj => ?_⟩
    have hjl : j < len := by have := (List.getElem?_eq_some_iff.1 hj).1; rw [bc_length, hgl] at this; exact this
    have hv := hx j (by omega)
    rw [add_mk] at hv
    rw [bc_get _ j _ (List.getElem?_eq_getElem (by rw [hgl]; exact hjl))] at hj
    rw [← Option.some.inj hj, hv]
    have hz := hb zs[j] (List.getElem_mem (by omega))
    simp only [List.getElem_map, List.getElem_take]
    rw [List.getD_eq_getElem?_getD, List.getElem?_eq_getElem (by omega)]
    simp only [Option.getD_some, UInt8.toNat_ofNat']
    congr 2; omega

set_option maxRecDepth 20000 in
theorem dat_of_trod {n : Nat} {cs : List Value} {y : DataW H × List MemPlace} (h : DataW.trod enc Tryz.prog W 0 sp held n 59 cs = some y) :
    ∃ d : Dat, cs = d.cells ∧ RdB W (.slice d.ua d.user.length d.uc) d.user ∧ d.tsn < 4294967296 ∧ d.ppi < 4294967296 := by
  obtain ⟨xs, m, _, rfl, hl, hxl, hf⟩ := DataW.trod_struct Tryz.underlying59 h
  rw [Tryz.cells59] at hl
  match cs, hl with
  | [c0, c1, c2, c3, c4, c5, c6, c7, c8], _ =>
    have g : ∀ i < 9, ∃ x, xs[i]? = some x := fun i hi => ⟨_, List.getElem?_eq_getElem (by rw [hxl]; exact hi)⟩
    obtain ⟨x0, e0⟩ := g 0 (by omega)
    obtain ⟨x1, e1⟩ := g 1 (by omega)
    obtain ⟨x2, e2⟩ := g 2 (by omega)
    obtain ⟨x3, e3⟩ := g 3 (by omega)
    obtain ⟨x4, e4⟩ := g 4 (by omega)
    obtain ⟨x5, e5⟩ := g 5 (by omega)
    obtain ⟨x6, e6⟩ := g 6 (by omega)
    obtain ⟨x7, e7⟩ := g 7 (by omega)
    obtain ⟨x8, e8⟩ := g 8 (by omega)
    obtain ⟨b0, k0, _⟩ := DataW.trod_bool Tryz.underlying4 ((hf 0 _ rfl).trans e0)
    obtain ⟨b1, k1, _⟩ := DataW.trod_bool Tryz.underlying4 ((hf 1 _ rfl).trans e1)
    obtain ⟨b2, k2, _⟩ := DataW.trod_bool Tryz.underlying4 ((hf 2 _ rfl).trans e2)
    obtain ⟨b3, k3, _⟩ := DataW.trod_bool Tryz.underlying4 ((hf 3 _ rfl).trans e3)
    obtain ⟨b4, k4, _, w4⟩ := DataW.trod_int Tryz.underlying22 ((hf 4 _ rfl).trans e4)
    obtain ⟨b5, k5, _⟩ := DataW.trod_int Tryz.underlying3 ((hf 5 _ rfl).trans e5)
    obtain ⟨b6, k6, _⟩ := DataW.trod_int Tryz.underlying3 ((hf 6 _ rfl).trans e6)
    obtain ⟨b7, k7, _, w7⟩ := DataW.trod_int Tryz.underlying22 ((hf 7 _ rfl).trans e7)
    obtain ⟨ua, uc, l, k8, hr⟩ := arg_bytes ((hf 8 _ rfl).trans e8)
    simp [Tryz.cells4, Tryz.cells22, Tryz.cells3, Tryz.cells28] at k0 k1 k2 k3 k4 k5 k6 k7 k8
    have b32 : ∀ z : Int, (Lit.int .u32 z).wf = true → ∃ n : Nat, z = n ∧ n < 4294967296 := fun z hz => by
      simp [Lit.wf, IntKind.min, IntKind.max, IntKind.signed, IntKind.bits] at hz
      exact ⟨z.toNat, by omega, by omega⟩
    obtain ⟨tsn, rfl, ht⟩ := b32 b4 w4
    obtain ⟨ppi, rfl, hp⟩ := b32 b7 w7
    subst k0 k1 k2 k3 k4 k5 k6 k7 k8
    exact ⟨⟨b0, b1, b2, b3, tsn, b5, b6, ppi, l, ua, uc⟩, rfl, hr, ht, hp⟩

theorem arg_datas {n : Nat} {cs : List Value} {y : DataW H × List MemPlace} (h : DataW.trod enc Tryz.prog W 0 sp held n 35 cs = some y) :
    ∃ (da : Option Addr) (dc : Nat) (ds : List Dat), cs = [.slice da ds.length dc] ∧ RdD W (.slice da ds.length dc) ds := by
  rcases open_slice Tryz.underlying35' h with ⟨rfl, _⟩ | ⟨a, len, cap, m, n', D, Pl, rfl, _, hl, hmx, hm, _, hx⟩
  · exact ⟨none, 0, [], rfl, ⟨by simp [datCells], .inl ⟨none, 0, rfl, rfl, fun _ => rfl⟩⟩, by simp⟩
  have hlm : len ≤ m := by rw [hm]; split <;> omega
  obtain ⟨V, hV⟩ := choose_lt (α := Dat) (p := fun i d => (∀ j u, d.cells[j]? = some u → W.cell? ((a.add (i * 9)).add j) = some u) ∧ RdB W (.slice d.ua d.user.length d.uc) d.user ∧ d.tsn < 4294967296 ∧ d.ppi < 4294967296) (n := len) (fun i hi => by
    obtain ⟨cs', h1, h2⟩ := hx i (by omega)
    obtain ⟨d, rfl, hd⟩ := dat_of_trod h2
    rw [Tryz.cells59] at h1
    obtain ⟨_, _, h3⟩ := World.cells?_some h1
    refine ⟨d, fun j u hj => ?_, hd⟩
    have hj9 : j < 9 := (List.getElem?_eq_some_iff.1 hj).1
    rw [h3 j hj9, hj])
  have hgl : ((List.range len).map V).length = len := by simp
  have hmem : ∀ d ∈ (List.range len).map V, RdB W (.slice d.ua d.user.length d.uc) d.user ∧ d.tsn < 4294967296 ∧ d.ppi < 4294967296 := fun d hd => by
    obtain ⟨i, hi, rfl⟩ := List.mem_map.1 hd
    exact (hV i (List.mem_range.1 hi)).2
  refine ⟨some a, cap, (List.range len).map V, by rw [hgl], ⟨by rw [datCells_length, hgl, Nat.mul_comm], ?_⟩, hmem⟩
  rw [hgl]
  by_cases h0 : len = 0
  · subst h0
    exact .inl ⟨some a, cap, rfl, rfl, fun he => by cases he⟩
  · obtain ⟨g, o, spot⟩ := a
    have hs : spot = none := by
      have := World.cell?_spot ((hV 0 (by omega)).1 0 _ rfl)
      simpa [Addr.add] using this
    subst hs
    refine .inr ⟨g, o, cap, rfl, hl, fun j u hj => ?_⟩
    have hjl : j < 9 * len := by have := (List.getElem?_eq_some_iff.1 hj).1; rw [datCells_length, hgl] at this; exact this
    have hk : j / 9 < ((List.range len).map V).length := by rw [hgl]; omega
    have hlt9 : j % 9 < (((List.range len).map V)[j / 9]).cells.length := by exact Nat.mod_lt _ (by omega)
    have q := datCells_get ((List.range len).map V) (j / 9) hk (j % 9) _ (List.getElem?_eq_getElem hlt9)
    rw [Nat.div_add_mod, hj] at q
    have e9 : ((List.range len).map V)[j / 9] = V (j / 9) := by simp
    have hv := (hV (j / 9) (by omega)).1 (j % 9) u (by rw [q, ← e9]; exact List.getElem?_eq_getElem hlt9)
    rw [add_mk, add_mk] at hv
    rw [← hv]; congr 2
    have := Nat.div_add_mod j 9
    omega
end Go.Proofs.YtdpmbchamefkmaaGreatDoor
