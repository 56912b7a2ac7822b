/-
Things handed about: one more put to a row of one's own; calls through interfaces; a chunk as a thing that marshals itself.
-/
import Derived.Test.YtdpmbchamefkmaaGreatDoorSack2
namespace Go.Proofs.YtdpmbchamefkmaaGreatDoor
open Go.RowKit

/-! ### append(v, u) -/
theorem run_push {w : World} (base : Nat) (t ty e : TypeId) (z : Value) (bytes : Nat) (ht : Tryz.prog.underlying t = some (.slice e)) (hinfo : (Tryz.prog.info? e).map (fun i => (i.zero, i.size, i.bytes)) = some (some z, 1, bytes)) (hzs : z.cells.size = 1)
    (v : Value) (n : Nat) (xs : List Value) (hown : w.ownsRow base e 1 v n xs) (a : Addr) (c : Nat) (u : Value) (hu : w.cell? a = some u) (h1 : u.oneCell' = true)
    (hn : n + 1 ≤ 140737488355328) (hbytes : (n + 1) * bytes ≤ 140737488355328) (hbase : base ≤ w.heap.size) :
    ∃ v' w', (Builtin.append_ #[t, t] ty #[v, .slice (some a) 1 c]).run Tryz.prog w = .ok v' w' ∧ w'.ownsRow base e 1 v' (n + 1) (xs ++ [u]) ∧ w.grownBy w' v.ownBlock ∧ (v'.ownBlock = v.ownBlock ∨ v'.ownBlock = some w.heap.size) := by
  obtain ⟨i, hi, hz, hsize, hby⟩ := info_parts hinfo
  have hnews : ∀ j x, [u][j]? = some x → w.cell? (a.add j) = some x := by
    intro j x hj
    match j with
    | 0 => simp at hj; subst hj; simpa [Addr.add] using hu
    | j + 1 => simp at hj
  have h1' : ∀ x ∈ [u], x.oneCell' = true := by intro x hx; simp at hx; subst hx; exact h1
  obtain ⟨v', w', hr, ho, hg, _⟩ := run_append_own (P := Tryz.prog) w base t ty e i z 1 bytes ht hi hz hsize hby hzs (by omega) v n xs hown a 1 c [u] rfl hnews h1' (by unfold maxLen; omega) hbytes hbase
  refine ⟨v', w', hr, ho, hg, ?_⟩
  rcases hown.2 with ⟨rfl, rfl⟩ | ⟨g, cap, cur, rfl, hbg, hgg, hnc, hcm, hcs, htake⟩
  · have hr2 := run_append_nil (P := Tryz.prog) w t ty e i z ht hi hz a 1 c [u] (by simp [hsize]) hnews (by omega) (by omega) (by rw [hby]; omega)
    rw [hr2] at hr
    cases hr
    exact .inr rfl
  · by_cases hroom : n + 1 ≤ cap
    · have hr2 := run_append_room (P := Tryz.prog) w t ty e i ht hi g n cap cur hgg a 1 c [u] (by simp [hsize]) hnews h1' hroom (by simp [hsize, hcs]; omega)
      rw [hr2] at hr
      cases hr
      exact .inl rfl
    · have hr2 := run_append_grow (P := Tryz.prog) w t ty e i z ht hi hz ⟨g, 0, none⟩ n cap xs (by rw [hown.1, hsize]) (hown.cells (g := g) rfl) a 1 c [u] (by simp [hsize]) hnews (by omega) (by omega) (by rw [hby]; exact growslice_fits (by omega) hbytes)
      rw [hr2] at hr
      cases hr
      exact .inr rfl

theorem wpl_push {w : World} {ops : Array Oper} {rest : List Oper} {o : Oper} {a : Act} {Q : Exit → Act → World → Prop} (hgd : o.guard = none) (s x : Operand) (t : TypeId) (ho : o.op = .call { callee := .builtin .append, args := #[s, x], argTypes := #[t, t] })
    (base : Nat) (e : TypeId) (z : Value) (bytes : Nat) (ht : Tryz.prog.underlying t = some (.slice e)) (hinfo : (Tryz.prog.info? e).map (fun i => (i.zero, i.size, i.bytes)) = some (some z, 1, bytes)) (hzs : z.cells.size = 1)
    (v : Value) (n : Nat) (xs : List Value) (hs : a.eval s = v) (hown : w.ownsRow base e 1 v n xs) (ad : Addr) (c : Nat) (u : Value) (hx : a.eval x = .slice (some ad) 1 c) (hu : w.cell? ad = some u) (h1 : u.oneCell' = true)
    (hn : n + 1 ≤ 140737488355328) (hbytes : (n + 1) * bytes ≤ 140737488355328) (hbase : base ≤ w.heap.size)
    (h : ∀ a' c' w', w'.ownsRow base e 1 (.slice a' (n + 1) c') (n + 1) (xs ++ [u]) → w.grownBy w' v.ownBlock → ((Value.slice a' (n + 1) c').ownBlock = v.ownBlock ∨ (Value.slice a' (n + 1) c').ownBlock = some w.heap.size) → wpList Tryz.prog ops Q rest (a.put o.dst (.slice a' (n + 1) c')) w') :
    wpList Tryz.prog ops Q (o :: rest) a w := by
  obtain ⟨v', w', hr, ho2, hg, hb⟩ := run_push base t o.type e z bytes ht hinfo hzs v n xs hown ad c u hu h1 hn hbytes hbase
  obtain ⟨a', c', rfl⟩ := own_form ho2
  exact Lib.wpList_append_run w hgd s x t t ho v _ hs hx _ w' hr (h a' c' w' ho2 hg hb)

/-! ### a call through an interface -/
theorem wpl_invoke {w : World} {ops : Array Oper} {rest : List Oper} {o : Oper} {a : Act} {Q : Exit → Act → World → Prop} (hgd : o.guard = none) (r : Operand) (name : String) (ats : Array TypeId) (ho : o.op = .call { callee := .invoke r name, args := #[], argTypes := ats })
    (u : Value) (hu : a.eval r = u) (f : FuncId) (p : Value) (hinv : (invoke (.fn (.method name) #[]) #[u]).run Tryz.prog w = .ok (.enter f #[p]) w) (R : Ending → World → Prop) (hc : Calls Tryz.prog f #[p] w R)
    (h : ∀ e w', R e w' → ∃ v, e = .returned v ∧ wpList Tryz.prog ops Q rest (a.put o.dst v) w') : wpList Tryz.prog ops Q (o :: rest) a w := by
  refine wpList_plain hgd fun K hK => ?_
  unfold Oper.wp
  have hrun : (execOp a.eval o).run Tryz.prog w = .ok (.enter f #[p]) w := by
    unfold execOp
    rw [ho]
    simp only [resolve, Sem.run_bind, Sem.run_pure, Result.andThen_ok, hu, List.map_toArray, List.map_nil, Array.append_empty]
    exact hinv
  rw [hrun]
  simp only [Oper.upon]
  refine hc.mono fun e w' hR => ?_
  obtain ⟨v, rfl, hl⟩ := h e w' hR
  exact hK _ _ hl

/-! ### chunks -/
/-- Blocks below B and blocks from lo up to hi are as they were. -/
structure Kept (B lo hi : Nat) (w w' : World) : Prop where
  size : w.heap.size ≤ w'.heap.size
  block : ∀ k, (k < B ∨ (lo ≤ k ∧ k < hi)) → k < w.heap.size → w'.heap[k]? = w.heap[k]?

theorem Kept.refl (B lo hi : Nat) (w : World) : Kept B lo hi w w := ⟨Nat.le_refl _, fun _ _ _ => rfl⟩
theorem Kept.trans {B lo hi : Nat} {a b c : World} (h : Kept B lo hi a b) (k : Kept B lo hi b c) : Kept B lo hi a c :=
  ⟨Nat.le_trans h.size k.size, fun j hj hs => (k.block j hj (Nat.lt_of_lt_of_le hs h.size)).trans (h.block j hj hs)⟩
theorem Kept.of_grow {B lo hi : Nat} {w w' : World} (h : Grow w w') : Kept B lo hi w w' := ⟨h.size, fun k _ hs => h.block k hs⟩
theorem Kept.of_only {B lo hi b : Nat} {w w' : World} (h : Only b w w') (h1 : B ≤ b) (h2 : b < lo ∨ hi ≤ b) : Kept B lo hi w w' :=
  ⟨h.size, fun k hk hs => h.block k hs (by simp; omega)⟩
theorem Kept.of_grown {B lo hi : Nat} {w w' : World} {r : Option Nat} (h : w.grownBy w' r) (h1 : ∀ b, r = some b → B ≤ b ∧ (b < lo ∨ hi ≤ b)) : Kept B lo hi w w' :=
  ⟨h.size, fun k hk hs => h.block k hs (by intro he; have := h1 k he.symm; omega)⟩

/-- Only blocks from lo up to hi are other than they were. -/
structure Within (lo hi : Nat) (w w' : World) : Prop where
  os : w'.os = w.os
  tape : w'.tape = w.tape
  output : w'.output = w.output
  size : w.heap.size ≤ w'.heap.size
  block : ∀ k, k < w.heap.size → ¬ (lo ≤ k ∧ k < hi) → w'.heap[k]? = w.heap[k]?

theorem Within.of_only {lo hi b : Nat} {w w' : World} (h : Only b w w') (h1 : lo ≤ b) (h2 : b < hi) : Within lo hi w w' :=
  ⟨h.os, h.tape, h.output, h.size, fun k hk hne => h.block k hk (by simp; omega)⟩
theorem Within.grow {lo hi : Nat} {w0 w w' : World} (hg : Grow w0 w) (h : Within lo hi w w') (hlo : w0.heap.size ≤ lo) : Grow w0 w' :=
  ⟨h.os.trans hg.os, h.tape.trans hg.tape, h.output.trans hg.output, Nat.le_trans hg.size h.size, fun k hk => (h.block k (Nat.lt_of_lt_of_le hk hg.size) (by omega)).trans (hg.block k hk)⟩
theorem Within.kept {lo hi B lo' hi' : Nat} {w w' : World} (h : Within lo hi w w') (h1 : B ≤ lo) (h2 : hi ≤ lo' ∨ hi' ≤ lo) : Kept B lo' hi' w w' :=
  ⟨h.size, fun k hk hs => h.block k hs (by omega)⟩

/-- A chunk, laid in blocks lo up to hi, that marshals to l (its value of n bytes). -/
def Marsh (B lo hi : Nat) (w : World) (u : Value) (l : List UInt8) : Prop :=
  B ≤ lo ∧ lo ≤ hi ∧ hi ≤ w.heap.size ∧ ∃ T p f, u = .iface T p ∧ (∀ w', (invoke (.fn (.method "loop.example/pub-g03037/pub/sctp.marshal") #[]) #[.iface T p]).run Tryz.prog w' = .ok (.enter f #[p]) w') ∧
    ∀ w', Kept B lo hi w w' → Calls Tryz.prog f #[p] w' fun e w'' => ∃ g, e = .returned (.tuple #[.slice (some ⟨g, 0, none⟩) l.length l.length, .nilIface]) ∧ w'.heap.size ≤ g ∧ Blk w'' g 5 (bc l) ∧ Within lo hi w' w''

theorem Marsh.kept {B lo hi : Nat} {w w' : World} {u : Value} {l : List UInt8} (h : Marsh B lo hi w u l) (k : Kept B lo hi w w') : Marsh B lo hi w' u l := by
  obtain ⟨h1, h2, h3, T, p, f, hu, hinv, hc⟩ := h
  exact ⟨h1, h2, Nat.le_trans h3 k.size, T, p, f, hu, hinv, fun w2 k2 => hc w2 (k.trans k2)⟩
theorem Marsh.one {B lo hi : Nat} {w : World} {u : Value} {l : List UInt8} (h : Marsh B lo hi w u l) : u.oneCell' = true := by
  obtain ⟨_, _, _, T, p, f, rfl, _⟩ := h
  rfl

/-- Chunks in their order, each in blocks of its own. -/
structure Chks (B : Nat) (w : World) (rs : List (Nat × Nat)) (us : List Value) (ls : List (List UInt8)) : Prop where
  len1 : rs.length = us.length
  len2 : ls.length = us.length
  each : ∀ (j : Nat) (r : Nat × Nat) (u : Value) (l : List UInt8), rs[j]? = some r → us[j]? = some u → ls[j]? = some l → Marsh B r.1 r.2 w u l
  sep : rs.Pairwise fun p q => p.2 ≤ q.1

theorem Chks.nil (B : Nat) (w : World) : Chks B w [] [] [] := ⟨rfl, rfl, by simp, List.Pairwise.nil⟩
theorem Chks.kept {B : Nat} {w w' : World} {rs : List (Nat × Nat)} {us : List Value} {ls : List (List UInt8)} (h : Chks B w rs us ls) (k : ∀ r ∈ rs, Kept B r.1 r.2 w w') : Chks B w' rs us ls :=
  ⟨h.len1, h.len2, fun j r u l h1 h2 h3 => (h.each j r u l h1 h2 h3).kept (k r (List.mem_of_getElem? h1)), h.sep⟩
theorem Chks.grow {B : Nat} {w w' : World} {rs : List (Nat × Nat)} {us : List Value} {ls : List (List UInt8)} (h : Chks B w rs us ls) (k : Grow w w') : Chks B w' rs us ls := h.kept fun _ _ => .of_grow k
theorem Chks.below {B : Nat} {w : World} {rs : List (Nat × Nat)} {us : List Value} {ls : List (List UInt8)} (h : Chks B w rs us ls) : ∀ r ∈ rs, r.2 ≤ w.heap.size ∧ r.1 ≤ r.2 ∧ B ≤ r.1 := by
  intro r hr
  obtain ⟨j, hj, he⟩ := List.mem_iff_getElem.1 hr
  have hu : j < us.length := by rw [← h.len1]; exact hj
  have hl : j < ls.length := by rw [h.len2]; exact hu
  have := h.each j r us[j] ls[j] (by rw [List.getElem?_eq_getElem hj, he]) (List.getElem?_eq_getElem hu) (List.getElem?_eq_getElem hl)
  exact ⟨this.2.2.1, this.2.1, this.1⟩
theorem Chks.push {B : Nat} {w : World} {rs : List (Nat × Nat)} {us : List Value} {ls : List (List UInt8)} (h : Chks B w rs us ls) {lo hi : Nat} {u : Value} {l : List UInt8} (hm : Marsh B lo hi w u l) (hlo : ∀ r ∈ rs, r.2 ≤ lo) :
    Chks B w (rs ++ [(lo, hi)]) (us ++ [u]) (ls ++ [l]) := by
  have e1 := h.len1
  have e2 := h.len2
  refine ⟨by simp [e1], by simp [e2], ?_, ?_⟩
  · intro j r u' l' h1 h2 h3
    rcases Nat.lt_or_ge j us.length with hj | hj
    · rw [List.getElem?_append_left (by omega)] at h1 h2 h3
      exact h.each j r u' l' h1 h2 h3
    · have hje : j = us.length := by
        have := (List.getElem?_eq_some_iff.1 h2).1
        simp at this; omega
      subst hje
      rw [List.getElem?_append_right (by omega)] at h1 h2 h3
      rw [e1, Nat.sub_self] at h1
      rw [Nat.sub_self] at h2
      rw [e2, Nat.sub_self] at h3
      simp at h1 h2 h3
      subst h1; subst h2; subst h3
      exact hm
  · rw [List.pairwise_append]
    exact ⟨h.sep, by simp, by intro p hp q hq; simp at hq; subst hq; exact hlo p hp⟩
end Go.Proofs.YtdpmbchamefkmaaGreatDoor
