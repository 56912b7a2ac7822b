/-
A packet's text; chunks that are known.
-/
import Derived.Test.YtdpmbchamefkmaaGreatDoorObj
import Derived.Test.YtdpmbchamefkmaaGreatDoorSack1
namespace Go.Proofs.YtdpmbchamefkmaaGreatDoor
open Go.RowKit

def body (ls : List (List UInt8)) : List UInt8 := (ls.map padded).flatten
def off (ls : List (List UInt8)) (k : Nat) : Nat := 12 + (body (ls.take k)).length

theorem body_split (ls : List (List UInt8)) (k : Nat) (hk : k < ls.length) : body ls = body (ls.take k) ++ (padded ls[k] ++ body (ls.drop (k + 1))) := by
  unfold body
  have e : ls = ls.take k ++ (ls[k] :: ls.drop (k + 1)) := by rw [← List.drop_eq_getElem_cons hk, List.take_append_drop]
  conv => lhs; rw [e]
  rw [List.map_append, List.flatten_append, List.map_cons, List.flatten_cons]
theorem off_zero (ls : List (List UInt8)) : off ls 0 = 12 := by simp [off, body]
theorem off_succ (ls : List (List UInt8)) (k : Nat) (hk : k < ls.length) : off ls (k + 1) = off ls k + (padded ls[k]).length := by
  unfold off body
  rw [List.take_add_one, List.getElem?_eq_getElem hk, List.map_append, List.flatten_append, List.length_append]
  simp; omega
theorem off_all (ls : List (List UInt8)) : off ls ls.length = 12 + (body ls).length := by simp [off]
theorem off_drop (h : List UInt8) (ls : List (List UInt8)) (k : Nat) (hk : k < ls.length) (hh : h.length = 12) : (h ++ body ls).drop (off ls k) = padded ls[k] ++ body (ls.drop (k + 1)) := by
  rw [body_split ls k hk]
  unfold off
  rw [← hh, ← List.append_assoc, ← List.length_append, List.drop_left]
theorem off_le (ls : List (List UInt8)) (k : Nat) (hk : k < ls.length) : off ls k + (padded ls[k]).length ≤ 12 + (body ls).length := by
  have := body_split ls k hk
  unfold off
  rw [this]
  simp [List.length_append]; omega

theorem body_pos (ls : List (List UInt8)) (h : ∀ l ∈ ls, 4 ≤ l.length) : ls = [] ∨ 4 ≤ (body ls).length := by
  cases ls with
  | nil => exact .inl rfl
  | cons l ls =>
    right
    have := h l (by simp)
    simp [body, padded]; omega

theorem padded_rest (l r : List UInt8) : padded l ++ r = l ++ (List.replicate (padN l.length) 0 ++ r) := by simp [padded]
theorem rest_zero (n : Nat) (ls : List (List UInt8)) (h : ∀ l ∈ ls, 4 ≤ l.length) (hlt : (List.replicate (padN n) (0 : UInt8) ++ body ls).length < 4) : ∀ x ∈ List.replicate (padN n) (0 : UInt8) ++ body ls, x = 0 := by
  rcases body_pos ls h with rfl | hb
  · intro x hx
    simp [body] at hx
    exact hx.2
  · simp [List.length_append] at hlt; omega

/-! ### chunks known -/
def KnownSack (l : List UInt8) : Prop := ∃ tsn win gaps dups, l = chunkB 3 0 (sackB tsn win gaps dups) ∧ tsn < 4294967296 ∧ win < 4294967296 ∧ (∀ p ∈ gaps, p.1 < 65536 ∧ p.2 < 65536) ∧ (∀ n ∈ dups, n < 4294967296) ∧ gaps.length ≤ 1000 ∧ dups.length ≤ 1000

theorem Kept.blk {B lo hi k : Nat} {w w' : World} {T : TypeId} {cs : List Value} (h : Kept B lo hi w w') (h1 : lo ≤ k) (h2 : k < hi) (hb : Blk w k T cs) : Blk w' k T cs := (h.block k (.inr ⟨h1, h2⟩) hb.lt).trans hb

theorem invokeMarshal105 (p : Value) (w : World) : (invoke (.fn (.method "loop.example/pub-g03037/pub/sctp.marshal") #[]) #[.iface 105 p]).run Tryz.prog w = .ok (.enter 111 #[p]) w := by kernel_rfl

theorem sack_marsh (B lo hi b g1 g2 tsn win : Nat) (gaps : List (Nat × Nat)) (dups : List Nat) (ra : Option Addr) (rn rc : Nat) (w : World) (hB : B ≤ lo) (h1 : lo ≤ b) (h2 : b < hi) (h3 : lo ≤ g1) (h4 : g1 < hi) (h5 : lo ≤ g2) (h6 : g2 < hi) (h7 : hi ≤ w.heap.size)
    (hb : Blk w b 108 [.int .u8 3, .int .u8 0, .slice ra rn rc, .int .u32 tsn, .int .u32 win, .slice (some ⟨g1, 0, none⟩) gaps.length gaps.length, .slice (some ⟨g2, 0, none⟩) dups.length dups.length])
    (hr1 : Blk w g1 242 (gapCells gaps)) (hr2 : Blk w g2 22 (dupCells dups)) (hg1b : g1 ≠ b) (hg2b : g2 ≠ b)
    (htsn : tsn < 4294967296) (hwin : win < 4294967296) (hgaps : ∀ p ∈ gaps, p.1 < 65536 ∧ p.2 < 65536) (hdups : ∀ n ∈ dups, n < 4294967296) (hG : gaps.length ≤ 1000) (hD : dups.length ≤ 1000) :
    Marsh B lo hi w (.iface 105 (.pointer (some ⟨b, 0, none⟩))) (chunkB 3 0 (sackB tsn win gaps dups)) := by
  refine ⟨hB, by omega, h7, 105, _, 111, rfl, invokeMarshal105 _, fun w' hk => ?_⟩
  refine (sackMarshal_any b tsn win gaps dups ra rn rc g1 g2 w' (hk.blk h1 h2 hb) (hk.blk h3 h4 hr1) (hk.blk h5 h6 hr2) hg1b hg2b htsn hwin hgaps hdups hG hD).mono ?_
  rintro e w'' ⟨g, rfl, hle, hblk, ho⟩
  exact ⟨g, by rw [chunkB_length], hle, hblk, .of_only ho h1 h2⟩

theorem Tryz.underlying68 : Tryz.prog.underlying 68 = some (.slice 73) := by kernel_rfl
theorem Tryz.info73 : (Tryz.prog.info? 73).map (fun i => (i.zero, i.size, i.bytes)) = some (some .nilIface, 1, 16) := by kernel_rfl

/-- The chunks read: a row of one's own that holds them, apart from the blocks that they lie in. -/
structure Row (B pb base : Nat) (w : World) (v : Value) (rs : List (Nat × Nat)) (us : List Value) (ls : List (List UInt8)) : Prop where
  own : w.ownsRow base 73 1 v us.length us
  chks : Chks B w rs us ls
  apart : ∀ g, v.ownBlock = some g → ∀ r ∈ rs, g < r.1 ∨ r.2 ≤ g
  above : ∀ r ∈ rs, pb < r.1

theorem Row.nil (B pb base : Nat) (w : World) : Row B pb base w (.slice none 0 0) [] [] [] := ⟨World.ownsRow_nil _ _ _ _, Chks.nil _ _, by simp, by simp⟩
theorem Row.grow {B pb base : Nat} {w w' : World} {v : Value} {rs : List (Nat × Nat)} {us : List Value} {ls : List (List UInt8)} (h : Row B pb base w v rs us ls) (g : Grow w w') : Row B pb base w' v rs us ls :=
  ⟨own_grow h.own g, h.chks.grow g, h.apart, h.above⟩

/-- One more chunk, laid above all that was there. -/
theorem Row.push {B pb base : Nat} {w0 w1 w2 : World} {v v' u : Value} {rs : List (Nat × Nat)} {us : List Value} {ls : List (List UInt8)} (h : Row B pb base w0 v rs us ls) (hg : Grow w0 w1) (hgr : w1.grownBy w2 v.ownBlock)
    (hown : w2.ownsRow base 73 1 v' (us.length + 1) (us ++ [u])) (hblk : ∀ g, v'.ownBlock = some g → v.ownBlock = some g ∨ w1.heap.size ≤ g) {lo hi : Nat} {l : List UInt8} (hm : Marsh B lo hi w1 u l) (hlo : w0.heap.size ≤ lo) (hpb : pb < w0.heap.size) (hBpb : B ≤ pb) (hbase : pb < base) :
    Row B pb base w2 v' (rs ++ [(lo, hi)]) (us ++ [u]) (ls ++ [l]) := by
  have hbel := h.chks.below
  have hb1 : ∀ b, v.ownBlock = some b → base ≤ b ∧ b < w0.heap.size := fun b hb => h.own.lt b hb
  have hk : ∀ r ∈ rs, Kept B r.1 r.2 w1 w2 := fun r hr => .of_grown hgr fun b hb => ⟨by have := hb1 b hb; omega, h.apart b hb r hr⟩
  have hm2 : Marsh B lo hi w2 u l := hm.kept (.of_grown hgr fun b hb => ⟨by have := hb1 b hb; omega, .inl (by have := hb1 b hb; omega)⟩)
  refine ⟨by simpa using hown, ((h.chks.grow hg).kept hk).push hm2 fun r hr => Nat.le_trans (hbel r hr).1 hlo, ?_, ?_⟩
  · intro g hgb r hr
    rcases List.mem_append.1 hr with hr | hr
    · rcases hblk g hgb with hv | hv
      · exact h.apart g hv r hr
      · exact .inr (Nat.le_trans (Nat.le_trans (hbel r hr).1 hg.size) hv)
    · simp at hr
      subst hr
      rcases hblk g hgb with hv | hv
      · exact .inl (by have := hb1 g hv; simp only []; omega)
      · exact .inr (Nat.le_trans hm.2.2.1 hv)
  · intro r hr
    rcases List.mem_append.1 hr with hr | hr
    · exact h.above r hr
    · simp at hr
      subst hr
      simp only []; omega
/-- a store into the packet itself -/
theorem Row.only {B pb base : Nat} {w w' : World} {v : Value} {rs : List (Nat × Nat)} {us : List Value} {ls : List (List UInt8)} (h : Row B pb base w v rs us ls) (ho : Only pb w w') (hBpb : B ≤ pb) (hbase : pb < base) : Row B pb base w' v rs us ls :=
  ⟨h.own.kept ho (by
    cases hv : v.ownBlock with
    | none => exact .inl rfl
    | some g => right; have := (h.own.lt g hv).1; intro he; cases he; omega), h.chks.kept fun r hr => .of_only ho hBpb (.inl (h.above r hr)), h.apart, h.above⟩

theorem blk_grown {w w' : World} {b T : Nat} {cs : List Value} {r : Option Nat} (h : Blk w b T cs) (hg : w.grownBy w' r) (hne : r ≠ some b) : Blk w' b T cs := (hg.block b h.lt hne.symm).trans h
theorem Only.grown {b : Nat} {w w1 w2 : World} {r : Option Nat} (h : Only b w w1) (hg : w1.grownBy w2 r) (hr : ∀ g, r = some g → w.heap.size ≤ g) : Only b w w2 :=
  ⟨hg.os.trans h.os, hg.tape.trans h.tape, hg.output.trans h.output, Nat.le_trans h.size hg.size, fun k hk hne => (hg.block k (Nat.lt_of_lt_of_le hk h.size) (by
    intro he; have := hr k he.symm; omega)).trans (h.block k hk hne)⟩

/-- a call through an interface, of one argument -/
theorem wpl_invoke1 {w : World} {ops : Array Oper} {rest : List Oper} {o : Oper} {a : Act} {Q : Exit → Act → World → Prop} (hgd : o.guard = none) (r x : Operand) (name : String) (ats : Array TypeId) (ho : o.op = .call { callee := .invoke r name, args := #[x], argTypes := ats })
    (u v : Value) (hu : a.eval r = u) (hv : a.eval x = v) (f : FuncId) (p : Value) (hinv : (invoke (.fn (.method name) #[]) #[u, v]).run Tryz.prog w = .ok (.enter f #[p, v]) w) (R : Ending → World → Prop) (hc : Calls Tryz.prog f #[p, v] w R)
    (h : ∀ e w', R e w' → ∃ v, e = .returned v ∧ wpList Tryz.prog ops Q rest (a.put o.dst v) w') : wpList Tryz.prog ops Q (o :: rest) a w := by
  refine wpList_plain hgd fun K hK => ?_
  unfold Oper.wp
  have hrun : (execOp a.eval o).run Tryz.prog w = .ok (.enter f #[p, v]) w := by
    unfold execOp
    rw [ho]
    simp only [resolve, Sem.run_bind, Sem.run_pure, Result.andThen_ok, hu, hv, List.map_toArray, List.map_cons, List.map_nil, List.append_toArray, List.cons_append, List.nil_append]
    exact hinv
  rw [hrun]
  simp only [Oper.upon]
  refine hc.mono fun e w' hR => ?_
  obtain ⟨v, rfl, hl⟩ := h e w' hR
  exact hK _ _ hl

/-- A fresh chunk in block b that reads l, whatever stands behind it; read, it marshals to l and tells the length of its value. -/
def Unread (w1 : World) (b : Nat) (w : World) (u : Value) (l : List UInt8) : Prop :=
  ∃ T f fv T2 cs, u = .iface T (.pointer (some ⟨b, 0, none⟩)) ∧ Blk w b T2 cs ∧
    (∀ x w', (invoke (.fn (.method "loop.example/pub-g03037/pub/sctp.unmarshal") #[]) #[.iface T (.pointer (some ⟨b, 0, none⟩)), x]).run Tryz.prog w' = .ok (.enter f #[.pointer (some ⟨b, 0, none⟩), x]) w') ∧
    (∀ w', (invoke (.fn (.method "loop.example/pub-g03037/pub/sctp.valueLength") #[]) #[.iface T (.pointer (some ⟨b, 0, none⟩))]).run Tryz.prog w' = .ok (.enter fv #[.pointer (some ⟨b, 0, none⟩)]) w') ∧
    ∀ v rest w', RdB w1 v (l ++ rest) → rest.length ≤ 140737488000000 → (rest.length < 4 → ∀ x ∈ rest, x = 0) → Grow w1 w' → w1.heap.size ≤ b → Blk w' b T2 cs →
      Calls Tryz.prog f #[.pointer (some ⟨b, 0, none⟩), v] w' fun e w'' => e = .returned .nilIface ∧ Only b w' w'' ∧ ∃ T3 cs3, Blk w'' b T3 cs3 ∧ (∀ hi w3, Kept w1.heap.size b hi w'' w3 → w''.heap.size ≤ hi → hi ≤ w3.heap.size → Marsh w1.heap.size b hi w3 u l) ∧
        ∀ w3, Blk w3 b T3 cs3 → Calls Tryz.prog fv #[.pointer (some ⟨b, 0, none⟩)] w3 fun e w4 => e = .returned (.int .i64 ((l.length - 4 : Nat) : Int)) ∧ Grow w3 w4

theorem invokeUnmarshal105 (b : Nat) (x : Value) (w : World) : (invoke (.fn (.method "loop.example/pub-g03037/pub/sctp.unmarshal") #[]) #[.iface 105 (.pointer (some ⟨b, 0, none⟩)), x]).run Tryz.prog w = .ok (.enter 112 #[.pointer (some ⟨b, 0, none⟩), x]) w := by kernel_rfl
theorem invokeLength105 (b : Nat) (w : World) : (invoke (.fn (.method "loop.example/pub-g03037/pub/sctp.valueLength") #[]) #[.iface 105 (.pointer (some ⟨b, 0, none⟩))]).run Tryz.prog w = .ok (.enter 67 #[.pointer (some ⟨b, 0, none⟩)]) w := by kernel_rfl

theorem sack_unread (b : Nat) (l : List UInt8) (hl : KnownSack l) (w1 w : World) (hb : Blk w b 108 [.int .u8 0, .int .u8 0, .slice none 0 0, .int .u32 0, .int .u32 0, .slice none 0 0, .slice none 0 0]) : Unread w1 b w (.iface 105 (.pointer (some ⟨b, 0, none⟩))) l := by
  obtain ⟨tsn, win, gaps, dups, rfl, htsn, hwin, hgaps, hdups, hG, hD⟩ := hl
  refine ⟨105, 112, 67, 108, _, rfl, hb, invokeUnmarshal105 b, invokeLength105 b, fun v rest w' hv hrest hz hg hle hb' => ?_⟩
  refine (sackUnmarshal_any b tsn win gaps dups _ _ _ _ _ _ _ v rest w1 w' hv hg hle hb' htsn hwin hgaps hdups hG hD hrest hz).mono ?_
  rintro e w'' ⟨ra, rc, g1, g2, rfl, hraw, hl1, hl2, hbB, hr1, hr2, ho⟩
  have hbl := hb'.lt
  refine ⟨rfl, ho, 108, _, hbB, fun hi w3 hk h1 h2 => ?_, fun w3 hb3 => ?_⟩
  · have hb1 := hbB.lt
    have hb2 := hr1.lt
    have hb3 := hr2.lt
    exact sack_marsh _ _ _ b g1 g2 tsn win gaps dups ra _ rc w3 hle (Nat.le_refl _) (by omega) (by omega) (by omega) (by omega) (by omega) h2 (hk.blk (Nat.le_refl _) (by omega) hbB) (hk.blk (by omega) (by omega) hr1) (hk.blk (by omega) (by omega) hr2) (by omega) (by omega) htsn hwin hgaps hdups hG hD
  · have := valueLength_any b 108 _ _ _ _ _ _ w3 hb3
    rw [chunkB_length, Nat.add_sub_cancel_left]
    exact this
end Go.Proofs.YtdpmbchamefkmaaGreatDoor
