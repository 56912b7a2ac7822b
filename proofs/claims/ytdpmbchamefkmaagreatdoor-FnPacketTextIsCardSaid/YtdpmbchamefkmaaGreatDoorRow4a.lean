/-
What the laid variables give: each cell an interface that is not nil.
-/
import Derived.Test.YtdpmbchamefkmaaGreatDoorProg
import Derived.Test.YtdpmbchamefkmaaGreatDoorCalm
import Derived.Test.YtdpmbchamefkmaaGreatDoorRows
import Derived.ProofKit
import Derived.LaidMore
import Derived.LaidLaws
import Derived.LaidHandle
import Derived.Stop.Joined
import Derived.RowKitTokens
namespace Go.Proofs.YtdpmbchamefkmaaGreatDoor
open Go.ChangeShapes Go.WideShapes Go.ChangeAt Go.RowKit

theorem Tryz.ownK : ownKnob Tryz.prog.godebug = none := by kernel_rfl
theorem Tryz.gHead : Tryz.prog.globalNamed "loop.example/pub-g03037/pub/sctp.ErrChunkHeaderTooSmall" = some 0 := by kernel_rfl
theorem Tryz.gUnk : Tryz.prog.globalNamed "loop.example/pub-g03037/pub/sctp.ErrUnmarshalUnknownChunkType" = some 1 := by kernel_rfl
theorem Tryz.tHead : (Tryz.prog.globals[0]?).map (·.type) = some 55 := by kernel_rfl
theorem Tryz.tUnk : (Tryz.prog.globals[1]?).map (·.type) = some 55 := by kernel_rfl

theorem cells_of_laid {W : World} (h : laidMetH Tryz.prog Rows.fnPacketTextIsRow.laid W) :
    ∃ (t0 t1 : TypeId) (v0 v1 : Value), W.var? Tryz.prog "loop.example/pub-g03037/pub/sctp.ErrChunkHeaderTooSmall" = some #[.iface t0 v0] ∧ W.var? Tryz.prog "loop.example/pub-g03037/pub/sctp.ErrUnmarshalUnknownChunkType" = some #[.iface t1 v1] := by
  have h' : laidMet Tryz.prog Rows.fnPacketTextIsRow.laid W := h
  obtain ⟨ps, ⟨g0, t0, cs0, f0, p0, q0, hg0, ht0, hv0, hd0, ⟨g1, t1, cs1, f1, p1, q1, hg1, ht1, hv1, hd1, hq1, e1⟩, e0⟩, hnd, hrows⟩ := h'
  obtain rfl := Option.some.inj (Tryz.gHead.symm.trans hg0)
  obtain rfl := Option.some.inj (Tryz.gUnk.symm.trans hg1)
  obtain rfl := Option.some.inj (Tryz.tHead.symm.trans ht0)
  obtain rfl := Option.some.inj (Tryz.tUnk.symm.trans ht1)
  obtain ⟨_, u0, x0, hc0, _⟩ := iface_of_trod Tryz.underlying55 hd0
  obtain ⟨_, u1, x1, hc1, _⟩ := iface_of_trod Tryz.underlying55 hd1
  rw [Array.eq_one_of_toList hc0] at hv0
  rw [Array.eq_one_of_toList hc1] at hv1
  exact ⟨u0, u1, x0, x1, hv0, hv1⟩

theorem var_grow {W W' : World} (hb : Grow W W') {n : String} {g : Nat} {cs : Array Value} (hg : Tryz.prog.globalNamed n = some g) (h : W.var? Tryz.prog n = some cs) : W'.var? Tryz.prog n = some cs := by
  unfold World.var? at h ⊢
  rw [hg] at h ⊢
  simp only [Option.bind_some] at h ⊢
  have hlt : g < W.heap.size := by
    cases hh : W.heap[g]? with
    | none => rw [hh] at h; cases h
    | some o => exact (Array.getElem?_eq_some_iff.1 hh).1
  rw [hb.block g hlt]; exact h

theorem text_vars {H : Type} (enc : TypeId × Value → H) {W : World} {t0 t1 : TypeId} {v0 v1 : Value} (h0 : W.var? Tryz.prog "loop.example/pub-g03037/pub/sctp.ErrChunkHeaderTooSmall" = some #[.iface t0 v0]) (h1 : W.var? Tryz.prog "loop.example/pub-g03037/pub/sctp.ErrUnmarshalUnknownChunkType" = some #[.iface t1 v1]) (sp : Nat → Bool) :
    DataW.TrodVars enc Tryz.prog W sp Rows.fnPacketTextIsSpec.vars [tok enc (.iface t0 v0), tok enc (.iface t1 v1)] [.cell 0 0, .cell 1 0] :=
  ⟨0, 55, _, 1, [], [.cell 1 0], Tryz.gHead, Tryz.tHead, h0, trod_held Tryz.underlying55 (show IsIface (.iface t0 v0) from trivial) 0, ⟨1, 55, _, 1, [], [], Tryz.gUnk, Tryz.tUnk, h1, trod_held Tryz.underlying55 (show IsIface (.iface t1 v1) from trivial) 0, rfl, rfl⟩, rfl⟩
end Go.Proofs.YtdpmbchamefkmaaGreatDoor
