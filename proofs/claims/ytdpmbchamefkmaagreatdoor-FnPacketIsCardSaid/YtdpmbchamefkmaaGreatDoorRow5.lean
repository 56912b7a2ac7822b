/-
The row of FnPacketIs.
-/
import Derived.Test.YtdpmbchamefkmaaGreatDoorLawIs
import Derived.Test.YtdpmbchamefkmaaGreatDoorRow5a
import Derived.Test.YtdpmbchamefkmaaGreatDoorArgs2
import Derived.Test.YtdpmbchamefkmaaGreatDoorArgs
import Derived.Lib.SmallJoins
import Derived.Carry
namespace Go.Proofs.YtdpmbchamefkmaaGreatDoor
open Go.ChangeShapes Go.WideShapes Go.ChangeAt Go.RowKit Go.Joins

theorem Tryz.cells26 : Tryz.prog.cellsOf 26 = 4 := by kernel_rfl
theorem Tryz.cells37 : Tryz.prog.cellsOf 37 = 2 := by kernel_rfl

theorem Tryz.readable : ∀ t ∈ Tryz.f5.params.toList, Tryz.prog.readableRec t = true ∧ t < Tryz.prog.types.size := by
  intro t ht
  rw [Tryz.params5] at ht
  simp at ht
  rcases ht with rfl | rfl | rfl | rfl | rfl | rfl
  all_goals exact ⟨by kernel_rfl, by decide +kernel⟩

set_option maxRecDepth 100000 in
set_option maxHeartbeats 20000000 in
theorem fnPacketIs_lifted (os : Os) (started : os.Started) (H : Type) (enc : TypeId × Value → H) :
    ReturnsInHanded {} Tryz.checked os 5 .any (fun w args => (Rows.fnPacketIsSpec.pre enc Tryz.prog Tryz.f5 [] false w args ∧ laidMetH Tryz.prog Rows.fnPacketIsRow.laid w) ∧ sizedMet enc Tryz.prog Tryz.f5 (OpenSpec.ofChange Rows.fnPacketIsSpec) false w args)
      (Rows.fnPacketIsSpec.post enc Tryz.prog Tryz.f5 false true false false) := by
  refine returnsInHanded_of_change_and (C := Tryz.checked) (X := fun w _ => laidMetH Tryz.prog Rows.fnPacketIsRow.laid w) (fun _ _ _ hh h => h.of_heap hh) Tryz.ownK started (by kernel_rfl) Tryz.func5
    (ChangeSpec.witness_shaped (enc := enc) (C := Tryz.checked) (os := os) (X := fun w _ => laidMetH Tryz.prog Rows.fnPacketIsRow.laid w) false (World.doorLaid Tryz.prog 1168 os) #[.int .i64 0, .int .i64 0, .int .u32 0, .slice none 0 0, .agg #[.int .u32 0, .int .u32 0, .slice none 0 0, .slice none 0 0], .agg #[.int .u32 0, .slice none 0 0], .bool false] 8 rfl (World.shaped_of_RefB (by kernel_rfl) (by kernel_rfl)) (by kernel_rfl) (by kernel_rfl) (by kernel_rfl) (laidMetH_of_parts3 (fuel := 8) (laidMet_of_run' 8 (by kernel_rfl) (by kernel_rfl)) (by kernel_rfl) (by kernel_rfl))) ?_
  intro W base args ds gs before hval0 hW _ _ hL _
  have hval : ∀ (j : Nat) t v, Tryz.f5.params[j]? = some t → args[j]? = some v → Value.okWide Tryz.prog W .any base t v := hval0
  have hW' := hW
  obtain ⟨p, q, hA0, hV0, rfl, hfz, hnd⟩ := hW
  have hA : DataW.TrodAll enc Tryz.prog W 0 (fun _ => true) true Tryz.f5.params.toList args.toList ds p := hA0
  rw [Tryz.params5] at hA hval
  have hAw := hA
  obtain ⟨v0, s0, d0, e0, p0, q0, ha0, rfl, rfl, h0, hA⟩ := trodAll_cons hA
  obtain ⟨v1, s1, d1, e1, p1, q1, rfl, rfl, rfl, h1, hA⟩ := trodAll_cons hA
  obtain ⟨v2, s2, d2, e2, p2, q2, rfl, rfl, rfl, h2, hA⟩ := trodAll_cons hA
  obtain ⟨v3, s3, d3, e3, p3, q3, rfl, rfl, rfl, h3, hA⟩ := trodAll_cons hA
  obtain ⟨v4, s4, d4, e4, p4, q4, rfl, rfl, rfl, h4, hA⟩ := trodAll_cons hA
  obtain ⟨v5, s5, d5, e5, p5, q5, rfl, rfl, rfl, h5, hA⟩ := trodAll_cons hA
  obtain ⟨v6, s6, d6, e6, p6, q6, rfl, rfl, rfl, h6, hA⟩ := trodAll_cons hA
  obtain ⟨rfl, rfl, rfl⟩ := trodAll_nil hA
  obtain rfl : args = #[v0, v1, v2, v3, v4, v5, v6] := Array.ext' ha0
  obtain ⟨x0, rfl, rfl, rfl, wx0⟩ := open_int Tryz.underlying3 (hval 0 3 v0 rfl rfl) h0
  obtain ⟨x1, rfl, rfl, rfl, wx1⟩ := open_int Tryz.underlying3 (hval 1 3 v1 rfl rfl) h1
  obtain ⟨x2, rfl, rfl, rfl, wx2⟩ := open_int Tryz.underlying22 (hval 2 22 v2 rfl rfl) h2
  obtain ⟨z0, z1, z2, rfl⟩ := okWide_slice Tryz.underlying35' (hval 3 35 v3 rfl rfl)
  obtain ⟨f3, hf3⟩ := h3
  obtain ⟨da, dc, dats, eds, hrds⟩ := arg_datas hf3
  simp [Value.cells] at eds
  obtain ⟨rfl, rfl, rfl⟩ := eds
  obtain ⟨a0, a1, a2, a3, y0, y1, y2, y3, n, rfl, rfl, rfl, t0, t1, t2, t3⟩ := open_agg4 Tryz.underlying26 (by kernel_rfl) Tryz.cells26 (hval 4 26 v4 rfl rfl) h4
  obtain ⟨b0, b1, u0, u1, n2, rfl, rfl, rfl, t4, t5⟩ := open_agg2 Tryz.underlying37 (by kernel_rfl) Tryz.cells37 (hval 5 37 v5 rfl rfl) h5
  obtain ⟨check, rfl, rfl, rfl⟩ := open_bool Tryz.underlying4 (hval 6 4 v6 rfl rfl) h6
  obtain ⟨tsn, et, _, wt⟩ := DataW.trod_int Tryz.underlying22 t0
  obtain ⟨win, ew, _, ww⟩ := DataW.trod_int Tryz.underlying22 t1
  obtain ⟨ga, gc, gs', eg, hrg⟩ := arg_gaps t2
  obtain ⟨ta, tc, dups, ed, hrd, hdl⟩ := arg_dups t3
  obtain ⟨ftsn, ef, _, wf⟩ := DataW.trod_int Tryz.underlying22 t4
  obtain ⟨sa, sc, ss, es, hrs⟩ := arg_gaps t5
  simp only [List.cons.injEq, and_true] at et ew eg ed ef es
  subst et
  subst ew
  subst eg
  subst ed
  subst ef
  subst es
  have b32 : ∀ z : Int, (Lit.int .u32 z).wf = true → ∃ n : Nat, z = n ∧ n < 4294967296 := fun z hz => by
    simp [Lit.wf, IntKind.min, IntKind.max, IntKind.signed, IntKind.bits] at hz
    exact ⟨z.toNat, by omega, by omega⟩
  obtain ⟨tag, rfl, htag⟩ := b32 x2 wx2
  obtain ⟨tsn', rfl, htsn⟩ := b32 tsn wt
  obtain ⟨win', rfl, hwin⟩ := b32 win ww
  obtain ⟨ftsn', rfl, hftsn⟩ := b32 ftsn wf
  obtain ⟨c2, c6, c1, c4, k2, k6, k1, k4, w2, w6, w1, w4⟩ := cells_of_laid hL
  refine (packetIs_any x0 x1 tag dats _ _ tsn' win' gs' dups ga ta gc tc ftsn' ss sa sc check W hrds hrg hrd hrs htag htsn hwin hdl hftsn).mono fun e W' ⟨he, hw⟩ => ?_
  subst he
  have hlt := hW'.lt
  have hV : DataW.TrodVars enc Tryz.prog W (fun _ => true) Rows.fnPacketIsSpec.vars gs q := hV0
  obtain ⟨rfl, rfl⟩ := hV.unique (is_vars enc w2 w4 w6 w1 _)
  have kept : ∀ {n : String} {g : Nat} {cs : Array Value}, Tryz.prog.globalNamed n = some g → W.var? Tryz.prog n = some cs → W'.var? Tryz.prog n = some cs := fun hg h => var_grow hw hg h
  refine ⟨_, rfl, _, _, _, [], _, _, hW', trodAll_mk1 (shut_bool Tryz.underlying4 true), trodAll_stays hw (fun t ht => Tryz.readable t ht) hAw (fun x hx => ?_), is_vars enc (kept Tryz.gSmall w2) (kept Tryz.gMis w4) (kept Tryz.gNot w6) (kept Tryz.gUnk w1) _, hw.frame _, fun h => by cases h⟩
  have := hlt x (List.mem_append_left _ hx)
  exact ⟨this, by simpa using this⟩

theorem fnPacketIs_holds : Rows.FnPacketIsSaid :=
  OpenClaim.holds_of_wide 5 Tryz.f5 rfl rfl rfl rfl rfl rfl rfl ⟨rfl, rfl, rfl, rfl, rfl⟩ rfl rfl rfl rfl rfl (by kernel_rfl) Tryz.func5 (by kernel_rfl)
    (of_decide_eq_true (by kernel_rfl)) (by unfold Func.isWrapper; first | (rw [if_pos (by decide +kernel)]; kernel_rfl) | (rw [if_neg (by decide +kernel)]; exact ⟨rfl, rfl⟩))
    (fun os started H enc _ => fnPacketIs_lifted os started H enc)
end Go.Proofs.YtdpmbchamefkmaaGreatDoor
