/-
What the laid variables give: each cell an interface that is not nil.
-/
import Derived.Test.YtdpmbchamefkmaaGreatDoorProg
import Derived.Test.YtdpmbchamefkmaaGreatDoorCalm
import Derived.Test.YtdpmbchamefkmaaGreatDoorRows
import Derived.ProofKit
import Derived.LaidMore
import Derived.LaidLaws
import Derived.LaidHandle
import Derived.Stop.Joined
import Derived.RowKitTokens
namespace Go.Proofs.YtdpmbchamefkmaaGreatDoor
open Go.ChangeShapes Go.WideShapes Go.ChangeAt Go.RowKit

theorem Tryz.ownK : ownKnob Tryz.prog.godebug = none := by kernel_rfl
theorem Tryz.gSmall : Tryz.prog.globalNamed "loop.example/pub-g03037/pub/sctp.ErrPacketRawTooSmall" = some 2 := by kernel_rfl
theorem Tryz.gNot : Tryz.prog.globalNamed "loop.example/pub-g03037/pub/sctp.ErrParseSCTPChunkNotEnoughData" = some 6 := by kernel_rfl
theorem Tryz.gUnk : Tryz.prog.globalNamed "loop.example/pub-g03037/pub/sctp.ErrUnmarshalUnknownChunkType" = some 1 := by kernel_rfl
theorem Tryz.gMis : Tryz.prog.globalNamed "loop.example/pub-g03037/pub/sctp.ErrChecksumMismatch" = some 4 := by kernel_rfl
theorem Tryz.tSmall : (Tryz.prog.globals[2]?).map (·.type) = some 55 := by kernel_rfl
theorem Tryz.tNot : (Tryz.prog.globals[6]?).map (·.type) = some 55 := by kernel_rfl
theorem Tryz.tUnk : (Tryz.prog.globals[1]?).map (·.type) = some 55 := by kernel_rfl
theorem Tryz.tMis : (Tryz.prog.globals[4]?).map (·.type) = some 55 := by kernel_rfl

theorem cells_of_laid {W : World} (h : laidMetH Tryz.prog Rows.fnPacketIsRow.laid W) :
    ∃ (t2 t6 t1 t4 : TypeId) (v2 v6 v1 v4 : Value), W.var? Tryz.prog "loop.example/pub-g03037/pub/sctp.ErrPacketRawTooSmall" = some #[.iface t2 v2] ∧ W.var? Tryz.prog "loop.example/pub-g03037/pub/sctp.ErrParseSCTPChunkNotEnoughData" = some #[.iface t6 v6] ∧
      W.var? Tryz.prog "loop.example/pub-g03037/pub/sctp.ErrUnmarshalUnknownChunkType" = some #[.iface t1 v1] ∧ W.var? Tryz.prog "loop.example/pub-g03037/pub/sctp.ErrChecksumMismatch" = some #[.iface t4 v4] := by
  have h' : laidMet Tryz.prog Rows.fnPacketIsRow.laid W := h
  obtain ⟨ps, ⟨g0, t0, cs0, f0, p0, q0, hg0, ht0, hv0, hd0, ⟨g1, t1, cs1, f1, p1, q1, hg1, ht1, hv1, hd1, ⟨g2, t2, cs2, f2, p2, q2, hg2, ht2, hv2, hd2, ⟨g3, t3, cs3, f3, p3, q3, hg3, ht3, hv3, hd3, hq3, e3⟩, e2⟩, e1⟩, e0⟩, hnd, hrows⟩ := h'
  obtain rfl := Option.some.inj (Tryz.gSmall.symm.trans hg0)
  obtain rfl := Option.some.inj (Tryz.gNot.symm.trans hg1)
  obtain rfl := Option.some.inj (Tryz.gUnk.symm.trans hg2)
  obtain rfl := Option.some.inj (Tryz.gMis.symm.trans hg3)
  obtain rfl := Option.some.inj (Tryz.tSmall.symm.trans ht0)
  obtain rfl := Option.some.inj (Tryz.tNot.symm.trans ht1)
  obtain rfl := Option.some.inj (Tryz.tUnk.symm.trans ht2)
  obtain rfl := Option.some.inj (Tryz.tMis.symm.trans ht3)
  obtain ⟨_, u0, x0, hc0, _⟩ := iface_of_trod Tryz.underlying55 hd0
  obtain ⟨_, u1, x1, hc1, _⟩ := iface_of_trod Tryz.underlying55 hd1
  obtain ⟨_, u2, x2, hc2, _⟩ := iface_of_trod Tryz.underlying55 hd2
  obtain ⟨_, u3, x3, hc3, _⟩ := iface_of_trod Tryz.underlying55 hd3
  rw [Array.eq_one_of_toList hc0] at hv0
  rw [Array.eq_one_of_toList hc1] at hv1
  rw [Array.eq_one_of_toList hc2] at hv2
  rw [Array.eq_one_of_toList hc3] at hv3
  exact ⟨u0, u1, u2, u3, x0, x1, x2, x3, hv0, hv1, hv2, hv3⟩
theorem var_grow {W W' : World} (hb : Grow W W') {n : String} {g : Nat} {cs : Array Value} (hg : Tryz.prog.globalNamed n = some g) (h : W.var? Tryz.prog n = some cs) : W'.var? Tryz.prog n = some cs := by
  unfold World.var? at h ⊢
  rw [hg] at h ⊢
  simp only [Option.bind_some] at h ⊢
  have hlt : g < W.heap.size := by
    cases hh : W.heap[g]? with
    | none => rw [hh] at h; cases h
    | some o => exact (Array.getElem?_eq_some_iff.1 hh).1
  rw [hb.block g hlt]; exact h

theorem is_vars {H : Type} (enc : TypeId × Value → H) {W : World} {t2 t4 t6 t1 : TypeId} {v2 v4 v6 v1 : Value} (h2 : W.var? Tryz.prog "loop.example/pub-g03037/pub/sctp.ErrPacketRawTooSmall" = some #[.iface t2 v2]) (h4 : W.var? Tryz.prog "loop.example/pub-g03037/pub/sctp.ErrChecksumMismatch" = some #[.iface t4 v4])
    (h6 : W.var? Tryz.prog "loop.example/pub-g03037/pub/sctp.ErrParseSCTPChunkNotEnoughData" = some #[.iface t6 v6]) (h1 : W.var? Tryz.prog "loop.example/pub-g03037/pub/sctp.ErrUnmarshalUnknownChunkType" = some #[.iface t1 v1]) (sp : Nat → Bool) :
    DataW.TrodVars enc Tryz.prog W sp Rows.fnPacketIsSpec.vars [tok enc (.iface t2 v2), tok enc (.iface t4 v4), tok enc (.iface t6 v6), tok enc (.iface t1 v1)] [.cell 2 0, .cell 4 0, .cell 6 0, .cell 1 0] :=
  ⟨2, 55, _, 1, [], [.cell 4 0, .cell 6 0, .cell 1 0], Tryz.gSmall, Tryz.tSmall, h2, trod_held Tryz.underlying55 (show IsIface (.iface t2 v2) from trivial) 0, ⟨4, 55, _, 1, [], [.cell 6 0, .cell 1 0], Tryz.gMis, Tryz.tMis, h4, trod_held Tryz.underlying55 (show IsIface (.iface t4 v4) from trivial) 0, ⟨6, 55, _, 1, [], [.cell 1 0], Tryz.gNot, Tryz.tNot, h6, trod_held Tryz.underlying55 (show IsIface (.iface t6 v6) from trivial) 0, ⟨1, 55, _, 1, [], [], Tryz.gUnk, Tryz.tUnk, h1, trod_held Tryz.underlying55 (show IsIface (.iface t1 v1) from trivial) 0, rfl, rfl⟩, rfl⟩, rfl⟩, rfl⟩

end Go.Proofs.YtdpmbchamefkmaaGreatDoor
