/-
The row of FnPacketTurned.
-/
import Derived.Test.YtdpmbchamefkmaaGreatDoorRow3a
import Derived.Test.YtdpmbchamefkmaaGreatDoorArgs2
import Derived.Lib.SmallJoins
import Derived.Carry
namespace Go.Proofs.YtdpmbchamefkmaaGreatDoor
open Go.ChangeShapes Go.WideShapes Go.ChangeAt Go.RowKit Go.Joins

theorem Tryz.cells26 : Tryz.prog.cellsOf 26 = 4 := by kernel_rfl

theorem var_grow {W W' : World} (hb : Grow W W') {n : String} {g : Nat} {cs : Array Value} (hg : Tryz.prog.globalNamed n = some g) (h : W.var? Tryz.prog n = some cs) : W'.var? Tryz.prog n = some cs := by
  unfold World.var? at h ⊢
  rw [hg] at h ⊢
  simp only [Option.bind_some] at h ⊢
  have hlt : g < W.heap.size := by
    cases hh : W.heap[g]? with
    | none => rw [hh] at h; cases h
    | some o => exact (Array.getElem?_eq_some_iff.1 hh).1
  rw [hb.block g hlt]; exact h

theorem turned_vars {H : Type} (enc : TypeId × Value → H) {W : World} {t2 t4 t6 t1 : TypeId} {v2 v4 v6 v1 : Value} (h2 : W.var? Tryz.prog "loop.example/pub-g03037/pub/sctp.ErrPacketRawTooSmall" = some #[.iface t2 v2]) (h4 : W.var? Tryz.prog "loop.example/pub-g03037/pub/sctp.ErrChecksumMismatch" = some #[.iface t4 v4])
    (h6 : W.var? Tryz.prog "loop.example/pub-g03037/pub/sctp.ErrParseSCTPChunkNotEnoughData" = some #[.iface t6 v6]) (h1 : W.var? Tryz.prog "loop.example/pub-g03037/pub/sctp.ErrUnmarshalUnknownChunkType" = some #[.iface t1 v1]) (sp : Nat → Bool) :
    DataW.TrodVars enc Tryz.prog W sp Rows.fnPacketTurnedSpec.vars [tok enc (.iface t2 v2), tok enc (.iface t4 v4), tok enc (.iface t6 v6), tok enc (.iface t1 v1)] [.cell 2 0, .cell 4 0, .cell 6 0, .cell 1 0] :=
  ⟨2, 55, _, 1, [], [.cell 4 0, .cell 6 0, .cell 1 0], Tryz.gSmall, Tryz.tSmall, h2, trod_held Tryz.underlying55 (show IsIface (.iface t2 v2) from trivial) 0, ⟨4, 55, _, 1, [], [.cell 6 0, .cell 1 0], Tryz.gMis, Tryz.tMis, h4, trod_held Tryz.underlying55 (show IsIface (.iface t4 v4) from trivial) 0, ⟨6, 55, _, 1, [], [.cell 1 0], Tryz.gNot, Tryz.tNot, h6, trod_held Tryz.underlying55 (show IsIface (.iface t6 v6) from trivial) 0, ⟨1, 55, _, 1, [], [], Tryz.gUnk, Tryz.tUnk, h1, trod_held Tryz.underlying55 (show IsIface (.iface t1 v1) from trivial) 0, rfl, rfl⟩, rfl⟩, rfl⟩, rfl⟩

set_option maxRecDepth 100000 in
set_option maxHeartbeats 2000000 in
theorem turned_lifted (os : Os) (started : os.Started) (H : Type) (enc : TypeId × Value → H) :
    ReturnsInHanded {} Tryz.checked os 3 .any (fun w args => (Rows.fnPacketTurnedSpec.pre enc Tryz.prog Tryz.f3 [] false w args ∧ laidMetH Tryz.prog Rows.fnPacketTurnedRow.laid w) ∧ sizedMet enc Tryz.prog Tryz.f3 (OpenSpec.ofChange Rows.fnPacketTurnedSpec) false w args)
      (Rows.fnPacketTurnedSpec.post enc Tryz.prog Tryz.f3 false true false false) := by
  refine returnsInHanded_of_change_and (C := Tryz.checked) (X := fun w _ => laidMetH Tryz.prog Rows.fnPacketTurnedRow.laid w) (fun _ _ _ hh h => h.of_heap hh) Tryz.ownK started (by kernel_rfl) Tryz.func3
    (ChangeSpec.witness_shaped (enc := enc) (C := Tryz.checked) (os := os) (X := fun w _ => laidMetH Tryz.prog Rows.fnPacketTurnedRow.laid w) false (World.doorLaid Tryz.prog 1168 os) #[.int .i64 0, .int .i64 0, .int .u32 0, .agg #[.int .u32 0, .int .u32 0, .slice none 0 0, .slice none 0 0], .int .i64 0] 8 rfl (World.shaped_of_RefB (by kernel_rfl) (by kernel_rfl)) (by kernel_rfl) (by kernel_rfl) (by kernel_rfl) (laidMetH_of_parts3 (fuel := 8) (laidMet_of_run' 8 (by kernel_rfl) (by kernel_rfl)) (by kernel_rfl) (by kernel_rfl))) ?_
  intro W base args ds gs before hval0 hW _ _ hL _
  have hval : ∀ (j : Nat) t v, Tryz.f3.params[j]? = some t → args[j]? = some v → Value.okWide Tryz.prog W .any base t v := hval0
  have hW' := hW
  obtain ⟨p, q, hA0, hV0, rfl, hfz, hnd⟩ := hW
  have hA : DataW.TrodAll enc Tryz.prog W 0 (fun _ => true) true Tryz.f3.params.toList args.toList ds p := hA0
  rw [Tryz.params3] at hA hval
  have hAw := hA
  obtain ⟨v0, s0, d0, e0, p0, q0, ha0, rfl, rfl, h0, hA⟩ := trodAll_cons hA
  obtain ⟨v1, s1, d1, e1, p1, q1, rfl, rfl, rfl, h1, hA⟩ := trodAll_cons hA
  obtain ⟨v2, s2, d2, e2, p2, q2, rfl, rfl, rfl, h2, hA⟩ := trodAll_cons hA
  obtain ⟨v3, s3, d3, e3, p3, q3, rfl, rfl, rfl, h3, hA⟩ := trodAll_cons hA
  obtain ⟨v4, s4, d4, e4, p4, q4, rfl, rfl, rfl, h4, hA⟩ := trodAll_cons hA
  obtain ⟨rfl, rfl, rfl⟩ := trodAll_nil hA
  obtain rfl : args = #[v0, v1, v2, v3, v4] := Array.ext' ha0
  obtain ⟨x0, rfl, rfl, rfl, wx0⟩ := open_int Tryz.underlying3 (hval 0 3 v0 rfl rfl) h0
  obtain ⟨x1, rfl, rfl, rfl, wx1⟩ := open_int Tryz.underlying3 (hval 1 3 v1 rfl rfl) h1
  obtain ⟨x2, rfl, rfl, rfl, wx2⟩ := open_int Tryz.underlying22 (hval 2 22 v2 rfl rfl) h2
  obtain ⟨x4, rfl, rfl, rfl, wx4⟩ := open_int Tryz.underlying3 (hval 4 3 v4 rfl rfl) h4
  obtain ⟨a0, a1, a2, a3, y0, y1, y2, y3, n, rfl, rfl, rfl, t0, t1, t2, t3⟩ := open_agg4 Tryz.underlying26 (by kernel_rfl) Tryz.cells26 (hval 3 26 v3 rfl rfl) h3
  obtain ⟨tsn, et, _, wt⟩ := DataW.trod_int Tryz.underlying22 t0
  obtain ⟨win, ew, _, ww⟩ := DataW.trod_int Tryz.underlying22 t1
  obtain ⟨ga, gc, gs', eg, hrg⟩ := arg_gaps t2
  obtain ⟨da, dc, dups, ed, hrd, hdl⟩ := arg_dups t3
  simp only [List.cons.injEq, and_true] at et ew eg ed
  subst et
  subst ew
  subst eg
  subst ed
  have b32 : ∀ z : Int, (Lit.int .u32 z).wf = true → ∃ n : Nat, z = n ∧ n < 4294967296 := fun z hz => by
    simp [Lit.wf, IntKind.min, IntKind.max, IntKind.signed, IntKind.bits] at hz
    exact ⟨z.toNat, by omega, by omega⟩
  obtain ⟨tag, rfl, htag⟩ := b32 x2 wx2
  obtain ⟨tsn', rfl, htsn⟩ := b32 tsn wt
  obtain ⟨win', rfl, hwin⟩ := b32 win ww
  obtain ⟨c2, c6, c1, c4, z2, z6, z1, z4, w2, w6, w1, w4⟩ := cells_of_laid hL
  have hg4 : W.cell? ⟨4, 0, none⟩ = some (.iface c4 z4) := by simpa using World.var?_cell Tryz.gMis w4 0
  refine (turned_any x0 x1 x4 tag tsn' win' gs' dups ga da gc dc W hrg hrd htag htsn hwin hdl c4 z4 hg4).mono fun e W' ⟨he, hw⟩ => ?_
  subst he
  have hlt := hW'.lt
  have hV : DataW.TrodVars enc Tryz.prog W (fun _ => true) Rows.fnPacketTurnedSpec.vars gs q := hV0
  obtain ⟨rfl, rfl⟩ := hV.unique (turned_vars enc w2 w4 w6 w1 _)
  have kept : ∀ {n : String} {g : Nat} {cs : Array Value}, Tryz.prog.globalNamed n = some g → W.var? Tryz.prog n = some cs → W'.var? Tryz.prog n = some cs := fun hg h => var_grow hw hg h
  refine ⟨_, rfl, _, _, _, [], _, _, hW', trodAll_mk1 (shut_bool Tryz.underlying4 true), trodAll_stays hw (by decide) hAw (fun x hx => ?_), turned_vars enc (kept Tryz.gSmall w2) (kept Tryz.gMis w4) (kept Tryz.gNot w6) (kept Tryz.gUnk w1) _, hw.frame _, fun h => by cases h⟩
  have := hlt x (List.mem_append_left _ hx)
  exact ⟨this, by simpa using this⟩

theorem fnPacketTurned_holds : Rows.FnPacketTurnedSaid :=
  OpenClaim.holds_of_wide 3 Tryz.f3 rfl rfl rfl rfl rfl rfl rfl ⟨rfl, rfl, rfl, rfl, rfl⟩ rfl rfl rfl rfl rfl (by kernel_rfl) Tryz.func3 (by kernel_rfl)
    (of_decide_eq_true (by kernel_rfl)) (by unfold Func.isWrapper; first | (rw [if_pos (by decide +kernel)]; kernel_rfl) | (rw [if_neg (by decide +kernel)]; exact ⟨rfl, rfl⟩))
    (fun os started H enc _ => turned_lifted os started H enc)
end Go.Proofs.YtdpmbchamefkmaaGreatDoor
