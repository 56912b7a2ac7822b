/-
The texts that the laws speak of: known, few, short.
-/
import Derived.Test.YtdpmbchamefkmaaGreatDoorLaw4
import Derived.Test.YtdpmbchamefkmaaGreatDoorSpec9
namespace Go.Proofs.YtdpmbchamefkmaaGreatDoor
open Go.RowKit

def natG (gs : List (Int × Int)) : List (Nat × Nat) := gs.map fun p => (p.1.toNat, p.2.toNat)
theorem natG_ok (gs : List (Int × Int)) (h : FwdOk gs) : natI (natG gs) = gs ∧ (natG gs).length = gs.length ∧ ∀ p ∈ natG gs, p.1 < 65536 ∧ p.2 < 65536 := by
  obtain ⟨_, h3⟩ := h
  refine ⟨?_, by simp [natG], ?_⟩
  · unfold natI natG
    rw [List.map_map]
    conv => rhs; rw [← List.map_id gs]
    refine List.map_congr_left fun p hp => ?_
    have := h3 p hp
    simp only [Function.comp, id]
    ext
    · simp only []; omega
    · simp only []; omega
  · intro p hp
    obtain ⟨q, hq, rfl⟩ := List.mem_map.1 hp
    have := h3 q hq
    simp only []; omega

/-- the texts of all chunks -/
def textsB (ds : List Dat) (tsn win : Nat) (gs : List (Int × Int)) (dups : List Nat) (ftsn : Nat) (ss : List (Int × Int)) : List (List UInt8) :=
  ds.map datB ++ [chunkB 3 0 (sackB tsn win (natG gs) dups), chunkB 192 0 (fwdB ftsn (natG ss))]
theorem textsB_length (ds : List Dat) (tsn win : Nat) (gs : List (Int × Int)) (dups : List Nat) (ftsn : Nat) (ss : List (Int × Int)) : (textsB ds tsn win gs dups ftsn ss).length = ds.length + 2 := by simp [textsB]

theorem body_le (ls : List (List UInt8)) (h : ∀ l ∈ ls, l.length ≤ 9000) : (body ls).length ≤ 9004 * ls.length := by
  induction ls with
  | nil => simp [body]
  | cons l ls ih =>
    have h1 := h l (by simp)
    have h2 := ih fun l hl => h l (by simp [hl])
    have h3 := padN_lt l.length
    have h4 : (body (l :: ls)).length = (padded l).length + (body ls).length := by simp [body]
    have h5 : (padded l).length = l.length + padN l.length := by simp [padded]
    simp only [List.length_cons]
    omega

theorem textsB_fits (ds : List Dat) (tsn win : Nat) (gs : List (Int × Int)) (dups : List Nat) (ftsn : Nat) (ss : List (Int × Int)) (hok : AreOk ds gs dups.length ss) (hds : ∀ d ∈ ds, d.tsn < 4294967296 ∧ d.ppi < 4294967296)
    (htsn : tsn < 4294967296) (hwin : win < 4294967296) (hdups : ∀ n ∈ dups, n < 4294967296) (hftsn : ftsn < 4294967296) : ∀ l ∈ textsB ds tsn win gs dups ftsn ss, Fits l := by
  obtain ⟨_, hS, hF, hD⟩ := hok
  obtain ⟨_, g2, g3⟩ := natG_ok gs ⟨hS.1, hS.2.2⟩
  obtain ⟨_, s2, s3⟩ := natG_ok ss hF
  intro l hl
  rcases List.mem_append.1 hl with h | h
  · obtain ⟨d, hd, rfl⟩ := List.mem_map.1 h
    have h1 := hD d hd
    have h2 := hds d hd
    exact ⟨.inr (.inl ⟨d.un, d.be, d.en, d.im, d.tsn, d.sid.toNat, d.seq.toNat, d.ppi, d.user, rfl, h2.1, by have := h1.1; have := h1.2.1; omega, by have := h1.2.2.1; have := h1.2.2.2.1; omega, h2.2, by have := h1.2.2.2.2.2; omega⟩)⟩
  · simp at h
    rcases h with rfl | rfl
    · exact ⟨.inl ⟨tsn, win, natG gs, dups, rfl, htsn, hwin, g3, hdups, by rw [g2]; exact hS.1, hS.2.1⟩⟩
    · exact ⟨.inr (.inr ⟨ftsn, natG ss, rfl, hftsn, s3, by rw [s2]; exact hF.1⟩)⟩

theorem textsB_short (ds : List Dat) (tsn win : Nat) (gs : List (Int × Int)) (dups : List Nat) (ftsn : Nat) (ss : List (Int × Int)) (hok : AreOk ds gs dups.length ss) (h : ∀ l ∈ textsB ds tsn win gs dups ftsn ss, Fits l) : (body (textsB ds tsn win gs dups ftsn ss)).length ≤ 60000 := by
  have h1 := body_le _ fun l hl => (h l hl).known.most
  rw [textsB_length] at h1
  have := hok.1
  omega

theorem texts_call (ds : List Dat) (da : Option Addr) (dc : Nat) (tsn win : Nat) (gs : List (Int × Int)) (dups : List Nat) (ga ta : Option Addr) (gc tc : Nat) (ftsn : Nat) (ss : List (Int × Int)) (sa : Option Addr) (sc : Nat) (w : World)
    (hr : RdD w (.slice da ds.length dc) ds) (hg : Rd w 2 (.slice ga gs.length gc) gs.length (intCells gs)) (hd : Rd w 1 (.slice ta dups.length tc) dups.length (dupCells dups)) (hs : Rd w 2 (.slice sa ss.length sc) ss.length (intCells ss))
    (htsn : tsn < 4294967296) (hwin : win < 4294967296) (hdups : ∀ n ∈ dups, n < 4294967296) (hftsn : ftsn < 4294967296) (hok : AreOk ds gs dups.length ss) (w1 : World) (h1 : Grow w w1) :
    Calls Tryz.prog 15 #[.slice da ds.length dc, .agg #[.int .u32 tsn, .int .u32 win, .slice ga gs.length gc, .slice ta dups.length tc], .agg #[.int .u32 ftsn, .slice sa ss.length sc]] w1
      fun e w' => ∃ oa oc, e = .returned (.slice oa (ds.length + 2) oc) ∧ RdBs w' (.slice oa (ds.length + 2) oc) (textsB ds tsn win gs dups ftsn ss) ∧ Grow w1 w' := by
  obtain ⟨hD4, hS, hF, hD⟩ := hok
  obtain ⟨g1, g2, g3⟩ := natG_ok gs ⟨hS.1, hS.2.2⟩
  obtain ⟨s1, s2, s3⟩ := natG_ok ss hF
  refine texts_any ds da dc tsn win gs dups ga ta gc tc ftsn ss sa sc w1 (hr.grow h1) _ _ (fun w' h => ?_) (fun w' h => ?_) hD4 hD
  · have hg' := hg.grow (h1.trans h)
    have := specSack_any tsn win (natG gs) dups ga ta gc tc w' (by rw [g1, g2]; exact hg') (hd.grow (h1.trans h)) (by rw [g2]; exact hS.1) hS.2.1 htsn hwin hdups
    rw [g2] at this
    rw [chunkB_length]
    exact this
  · have hs' := hs.grow (h1.trans h)
    have := specForward_any ftsn (natG ss) sa sc w' (by rw [s1, s2]; exact hs') (by rw [s2]; exact hF.1) hftsn
    rw [s2] at this
    rw [chunkB_length]
    exact this
end Go.Proofs.YtdpmbchamefkmaaGreatDoor
