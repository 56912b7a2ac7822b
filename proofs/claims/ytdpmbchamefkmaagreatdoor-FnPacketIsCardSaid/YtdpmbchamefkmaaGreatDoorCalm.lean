/-
Regions that draw their order and whose operations only read or make new memory ('calm'): one walk in the order of the text serves every order; what follows in one forced order (the tail) is walked as ever.
-/
import Derived.StillTail
import Derived.Below
namespace Go.Proofs.YtdpmbchamefkmaaGreatDoor
open Go.RowKit

/-- The world has grown: of what was there nothing has turned. -/
abbrev Grow (w w' : World) : Prop := Below w.heap.size w w'

theorem Grow.refl (w : World) : Grow w w := Below.refl _ _
theorem Grow.trans {a b c : World} (h : Grow a b) (k : Grow b c) : Grow a c := Below.trans h (Below.mono k h.size)

section
variable {P : Program} {ops : Array Oper} {md : Region.Mode}

/-- An operation, carried out in this frame and world, yields a value of which F holds, and the world has but grown. -/
def calmOf (P : Program) (w : World) (F : Value → World → Prop) : Result Next → Prop
  | .ok (.value v) w' => F v w' ∧ Grow w w'
  | .ok (.enter f args) w' => Grow w w' ∧ Calls P f args w' (fun e w'' => ∃ v, e = .returned v ∧ F v w'' ∧ Grow w' w'')
  | _ => False

def calmAt (P : Program) (o : Oper) (a : Act) (w : World) (F : Value → World → Prop) : Prop := calmOf P w F ((execOp a.eval o).run P w)

def Stable (F : Value → World → Prop) : Prop := ∀ v w w', F v w → Grow w w' → F v w'

theorem wp_of_calm {o : Oper} {a : Act} {w : World} {F : Value → World → Prop} {K : Act → World → Prop} {Q : Exit → Act → World → Prop}
    (h : calmAt P o a w F) (hk : ∀ v w', F v w' → Grow w w' → K (a.put o.dst v) w') : o.wp P a w K Q := by
  unfold calmAt at h
  unfold Oper.wp
  generalize (execOp a.eval o).run P w = r at *
  cases r with
  | ok x w' =>
    cases x <;> simp only [calmOf] at h <;> simp only [Oper.upon]
    case value v => exact hk _ _ h.1 h.2
    case enter f args =>
      obtain ⟨hg, hc⟩ := h
      exact hc.mono fun e w'' ⟨v, he, hF, hg'⟩ => by subst he; exact hk _ _ hF (hg.trans hg')
  | halt x w' => simp only [calmOf] at h

/-- The slot of operation j. -/
def dstOf (ops : Array Oper) (j : Nat) : Option Tmp := (ops[j]?).bind (·.dst)

def rd (a : Act) (s : Tmp) : Value := a.tmps.getD s undef

theorem rd_put (a : Act) (d s : Tmp) (v : Value) (hd : d < a.tmps.size) : rd (a.put (some d) v) s = if d = s then v else rd a s := by
  unfold rd Act.put
  simp only [Array.getD_eq_getD_getElem?, Array.getElem?_setIfInBounds]
  by_cases h : d = s
  · subst h; simp [hd]
  · simp [h]

theorem size_put (a : Act) (d : Option Tmp) (v : Value) : (a.put d v).tmps.size = a.tmps.size := by
  cases d <;> simp [Act.put]

theorem defers_put (a : Act) (d : Option Tmp) (v : Value) : (a.put d v).defers = a.defers := by
  cases d <;> rfl

theorem act_ext {a b : Act} (hs : a.tmps.size = b.tmps.size) (hd : a.defers = b.defers) (h : ∀ s, rd a s = rd b s) : a = b := by
  cases a with
  | mk ta da =>
  cases b with
  | mk tb db =>
  simp only at hs hd
  subst hd
  congr 1
  apply Array.ext hs
  intro i h1 h2
  have := h i
  simpa [rd, Array.getD_eq_getD_getElem?, h1, h2] using this

/-- What operation i may lean on: of each slot that it looks at, what the operation that wrote it (in this region) has told; else: what was there. -/
def Leans (ops : Array Oper) (a0 : Act) (Fs : Nat → Value → World → Prop) (i : Nat) (o : Oper) (a : Act) (w : World) : Prop :=
  ∀ s, s ∈ o.looksAt ops → (∀ j, j < i → dstOf ops j = some s → Fs j (rd a s) w) ∧ ((∀ j, j < i → dstOf ops j ≠ some s) → rd a s = rd a0 s)

def StepOk (P : Program) (ops : Array Oper) (a0 : Act) (B : World) (Fs : Nat → Value → World → Prop) (i : Nat) : Prop :=
  ∀ o, ops[i]? = some o → Stable (Fs i) ∧ ∀ a w, Grow B w → Leans ops a0 Fs i o a w → calmAt P o a w (Fs i)

/-- What is known behind the head. -/
structure Done (ops : Array Oper) (n : Nat) (a0 : Act) (B : World) (Fs : Nat → Value → World → Prop) (a : Act) (w : World) : Prop where
  grow : Grow B w
  size : a.tmps.size = a0.tmps.size
  defers : a.defers = a0.defers
  facts : ∀ j s, j < n → dstOf ops j = some s → Fs j (rd a s) w
  rest : ∀ s, (∀ j, j < n → dstOf ops j ≠ some s) → rd a s = rd a0 s

/-! ### the closed check -/

/-- No guard; what it looks at of the head was written by one that it waits for; what comes behind it writes nothing that it looks at; the slots are distinct and there. -/
def headB (md : Region.Mode) (ops : Array Oper) (n m : Nat) : Bool :=
  (List.range n).all fun i => match ops[i]? with
    | none => false
    | some o => o.guard.isNone && (match o.op with | .select .. => false | _ => true) &&
      (match o.dst with | some d => decide (d < m) | none => true) &&
      (o.after.all fun e => !Region.binds md e || decide (e.on < i)) &&
      (List.range n).all fun j => match dstOf ops j with
        | none => true
        | some d => (if j < i then !((o.looksAt ops).contains d) || Region.waitsFor md ops i j else !((o.looksAt ops).contains d)) && (i == j || o.dst != some d)

structure HeadOk (md : Region.Mode) (ops : Array Oper) (n m i : Nat) (o : Oper) : Prop where
  guard : o.guard = none
  sel : ∀ cs b, o.op ≠ .select cs b
  lt : ∀ d, o.dst = some d → d < m
  before : ∀ e ∈ o.after, Region.binds md e = true → e.on < i
  waits : ∀ j d, j < i → j < n → dstOf ops j = some d → d ∈ o.looksAt ops → Region.waitsFor md ops i j = true
  later : ∀ j d, i ≤ j → j < n → dstOf ops j = some d → d ∉ o.looksAt ops
  apart : ∀ j d, j < n → i ≠ j → dstOf ops j = some d → o.dst ≠ some d

theorem headB_spec {n m : Nat} (h : headB md ops n m = true) (i : Nat) (hi : i < n) : ∃ o, ops[i]? = some o ∧ HeadOk md ops n m i o := by
  have h1 := List.all_eq_true.1 h i (List.mem_range.2 hi)
  cases ho : ops[i]? with
  | none => simp [ho] at h1
  | some o =>
    simp only [ho, Bool.and_eq_true] at h1
    obtain ⟨⟨⟨⟨hg, hsel⟩, hlt⟩, hbef⟩, hall⟩ := h1
    refine ⟨o, rfl, ?_, ?_, ?_, ?_, ?_, ?_, ?_⟩
    · simpa using hg
    · intro cs b e; rw [e] at hsel; simp at hsel
    · intro d hd; rw [hd] at hlt; simpa using hlt
    · intro e he hb
      have := Array.all_eq_true_iff_forall_mem.1 hbef e he
      simpa [hb] using this
    · intro j d hji hj hd hl
      have := List.all_eq_true.1 hall j (List.mem_range.2 hj)
      simp only [hd, hji, if_true, Bool.and_eq_true, Bool.or_eq_true, Bool.not_eq_true', List.contains_eq_mem, decide_eq_false_iff_not] at this
      exact this.1.resolve_left (fun h => h hl)
    · intro j d hij hj hd hl
      have := List.all_eq_true.1 hall j (List.mem_range.2 hj)
      simp only [hd, if_neg (Nat.not_lt.2 hij), Bool.and_eq_true, Bool.not_eq_true', List.contains_eq_mem, decide_eq_false_iff_not] at this
      exact this.1 hl
    · intro j d hj hij hd hod
      have := List.all_eq_true.1 hall j (List.mem_range.2 hj)
      simp only [hd, Bool.and_eq_true, Bool.or_eq_true, beq_iff_eq, hij, false_or, bne_iff_ne] at this
      exact this.2 hod

/-! ### any order of the head, then the tail -/

/-- How many of the head are not listed yet. -/
def left (n : Nat) (listed : Array Bool) : Nat := (List.range n).countP fun j => !listed.getD j true

theorem countP_lt {α : Type} (p q : α → Bool) (x : α) : ∀ l : List α, (∀ y, q y = true → p y = true) → x ∈ l → p x = true → q x = false → l.countP q < l.countP p
  | [], _, hx, _, _ => by cases hx
  | y :: l, hqp, hx, hp, hq => by
    rw [List.countP_cons, List.countP_cons]
    have hle : l.countP q ≤ l.countP p := List.countP_mono_left fun z _ hz => hqp z hz
    rcases List.mem_cons.1 hx with rfl | hx'
    · simp [hp, hq]; omega
    · have ih := countP_lt p q x l hqp hx' hp hq
      by_cases hy : q y = true
      · simp [hy, hqp y hy]; omega
      · simp [hy]
        split <;> omega

theorem left_set {n i : Nat} {listed : Array Bool} (hi : i < n) (hl : listed.getD i true = false) : left n (listed.setIfInBounds i true) < left n listed := by
  unfold left
  refine countP_lt _ _ i _ ?_ (List.mem_range.2 hi) (by simp [hl]) ?_
  · intro j hj
    by_cases hij : i = j
    · subst hij; simp [hl]
    · rwa [getD_set_ne true hij] at hj
  · have hlt : i < listed.size := by
      rcases Nat.lt_or_ge i listed.size with h | h
      · exact h
      · simp [Array.getElem?_eq_none h] at hl
    simp [hlt]

/-- The tail, in its one order, however much is left of the count. -/
theorem wpAny_of_seq' {Q : Exit → Act → World → Prop} : ∀ (l : List Oper) (g k : Nat) (listed : Array Bool) (a : Act) (w : World), (∀ j, l[j]? = ops[k + j]?) → l.length ≤ g →
    Region.seqB md ops l.length k listed = true → wpList P ops Q l a w → wpAny P md ops Q g listed a w
  | [], g, _, listed, a, w, _, _, hB, h => wpAny_done (by simpa [Region.seqB] using hB) h g
  | o :: l, 0, _, _, _, _, _, hg, _, _ => by simp at hg
  | o :: l, g + 1, k, listed, a, w, hl, hg, hB, h => by
    have h0 : ops[k]? = some o := by simpa using (hl 0).symm
    simp only [List.length_cons, Region.seqB, Bool.and_eq_true, decide_eq_true_eq] at hB
    refine ⟨fun h1 => (by rw [hB.1] at h1; cases h1), fun i hi => ?_⟩
    rw [hB.1] at hi
    have hik : i = k := by simpa using hi
    subst hik
    have hw : wpOp P ops Q i (wpList P ops Q l) a w := by unfold wpOp; simp only [h0]; exact h
    exact wpOp_mono (fun a' w' h' => wpAny_of_seq' l g (i + 1) _ a' w' (fun j => by have := hl (j + 1); simpa [Nat.add_assoc, Nat.add_comm 1 j] using this) (by simp only [List.length_cons] at hg; omega) hB.2 h') hw

/-- All of the head is listed, nothing of the tail. -/
def headListed (n m : Nat) : Array Bool := ((List.range m).map fun j => decide (j < n)).toArray

theorem listed_eq {n : Nat} {listed : Array Bool} (inv : HeadInv md ops n listed) (h0 : left n listed = 0) (_hn : n ≤ ops.size) : listed = headListed n ops.size := by
  apply Array.ext
  · simp [headListed, inv.size]
  · intro i h1 h2
    rw [inv.size] at h1
    have hr : (headListed n ops.size)[i] = decide (i < n) := by simp [headListed]
    rw [hr]
    rcases Nat.lt_or_ge i n with h | h
    · have h3 : ¬ 0 < left n listed := by omega
      unfold left at h3
      rw [List.countP_pos_iff] at h3
      have h4 : listed.getD i true = true := by
        cases hc : listed.getD i true with
        | true => rfl
        | false => exact absurd ⟨i, List.mem_range.2 h, by rw [hc]; rfl⟩ h3
      have h5 : i < listed.size := by rw [inv.size]; omega
      simp [h5] at h4
      simp [h, h4]
    · have h3 := inv.tail i h h1
      have h5 : i < listed.size := by rw [inv.size]; omega
      simp [h5] at h3
      simp [Nat.not_lt.2 h, h3]

/-- What holds on the way through the head. -/
structure Mid (md : Region.Mode) (ops : Array Oper) (n : Nat) (a0 : Act) (B : World) (Fs : Nat → Value → World → Prop) (listed : Array Bool) (a : Act) (w : World) : Prop where
  head : HeadInv md ops n listed
  grow : Grow B w
  size : a.tmps.size = a0.tmps.size
  defers : a.defers = a0.defers
  facts : ∀ j s, j < n → listed.getD j false = true → dstOf ops j = some s → Fs j (rd a s) w
  rest : ∀ s, (∀ j, j < n → listed.getD j false = true → dstOf ops j ≠ some s) → rd a s = rd a0 s

theorem getD_of_set {listed : Array Bool} {i j : Nat} (h : (listed.setIfInBounds i true).getD j false = true) : j = i ∨ listed.getD j false = true := by
  by_cases hij : i = j
  · exact .inl hij.symm
  · rw [getD_set_ne false hij] at h; exact .inr h

theorem wpAny_calm {n : Nat} {a0 : Act} {B : World} {Fs : Nat → Value → World → Prop} {Q : Exit → Act → World → Prop} {l : List Oper}
    (hH : headB md ops n a0.tmps.size = true) (hn : n < ops.size) (hs : Region.sinkB md ops n = true) (hc : Region.chainB md ops n = true)
    (hseq : Region.seqB md ops (ops.size - n) n (headListed n ops.size) = true) (hl : ∀ j, l[j]? = ops[n + j]?) (hll : l.length = ops.size - n)
    (hstep : ∀ i, i < n → StepOk P ops a0 B Fs i)
    (hfin : ∀ a w, Done ops n a0 B Fs a w → wpList P ops Q l a w) :
    ∀ (f : Nat) (listed : Array Bool) (a : Act) (w : World), left n listed ≤ f → Mid md ops n a0 B Fs listed a w → wpAny P md ops Q (f + l.length) listed a w := by
  have finish : ∀ (f : Nat) (listed : Array Bool) (a : Act) (w : World), left n listed = 0 → Mid md ops n a0 B Fs listed a w → wpAny P md ops Q (f + l.length) listed a w := by
    intro f listed a w h0 mid
    have he := listed_eq mid.head h0 (Nat.le_of_lt hn)
    have hall : ∀ j, j < n → listed.getD j false = true := by
      intro j hj
      rw [he]
      have : j < ops.size := by omega
      simp [headListed, this, hj]
    refine wpAny_of_seq' l _ n listed a w hl (by omega) (by rw [he, hll]; exact hseq) (hfin a w ⟨mid.grow, mid.size, mid.defers, fun j s hj hd => mid.facts j s hj (hall j hj) hd, fun s h => mid.rest s fun j hj _ => h j hj⟩)
  intro f
  induction f with
  | zero => intro listed a w h0 mid; exact finish 0 listed a w (by omega) mid
  | succ f ih =>
    intro listed a w h0 mid
    by_cases hz : left n listed = 0
    · exact finish (f + 1) listed a w hz mid
    · rw [show f + 1 + l.length = (f + l.length) + 1 by omega]
      -- the least one that is not listed
      have hex : ∃ i, i < n ∧ listed.getD i true = false ∧ ∀ j, j < i → listed.getD j true = true := by
        have hp : 0 < left n listed := by omega
        unfold left at hp
        rw [List.countP_pos_iff] at hp
        obtain ⟨x, hx, hx2⟩ := hp
        have hx' : x < n := List.mem_range.1 hx
        have hx3 : listed.getD x true = false := by simpa using hx2
        clear hx hx2
        induction x using Nat.strongRecOn with
        | _ x ihx =>
          by_cases hall : ∀ j, j < x → listed.getD j true = true
          · exact ⟨x, hx', hx3, hall⟩
          · have : ∃ j, j < x ∧ listed.getD j true = false := by
              refine Classical.byContradiction fun hne => hall fun j hj => ?_
              cases hc : listed.getD j true with
              | true => rfl
              | false => exact absurd ⟨j, hj, hc⟩ hne
            obtain ⟨j, hj, hj2⟩ := this
            exact ihx j hj (by omega) hj2
      obtain ⟨i0, hi0, hun0, hleast⟩ := hex
      have hready0 : i0 ∈ Region.ready md ops listed := by
        obtain ⟨o, ho, hok⟩ := headB_spec hH i0 hi0
        refine mem_ready.2 ⟨hun0, o, ho, fun e he hb => ?_⟩
        have h1 := hok.before e he hb
        have h2 := hleast e.on h1
        have hlt : e.on < listed.size := by rw [mid.head.size]; omega
        simp [hlt] at h2 ⊢; exact h2
      refine ⟨fun h => (by rw [h] at hready0; cases hready0), fun i hi => ?_⟩
      have hin : i < n := by
        rcases Nat.lt_or_ge i n with h | h
        · exact h
        · exact absurd hi (tail_waits hs hc hn mid.head _ i0 rfl hi0 hun0 i h)
      obtain ⟨hun, o', ho', hall⟩ := mem_ready.1 hi
      obtain ⟨o, ho, hok⟩ := headB_spec hH i hin
      have : o' = o := Option.some.inj (ho'.symm.trans ho)
      subst this
      obtain ⟨hstab, hcalm⟩ := hstep i hin o' ho
      have hlisted : ∀ j, j < n → listed.getD j false = true → j ≠ i := by
        intro j hj h e
        subst e
        rw [getD_both hun] at h
        cases h
      have hlean : Leans ops a0 Fs i o' a w := by
        intro s hs'
        refine ⟨fun j hj hd => ?_, fun hno => ?_⟩
        · have hw := hok.waits j s hj (by omega) hd hs'
          obtain ⟨oj, hoj, e, he, hb, hon⟩ := Region.waitsFor_spec hw
          have : oj = o' := Option.some.inj (hoj.symm.trans ho)
          subst this
          have := hall e he hb
          rw [hon] at this
          exact mid.facts j s (by omega) this hd
        · refine mid.rest s fun j hj hlj hd => ?_
          rcases Nat.lt_or_ge j i with h | h
          · exact hno j h hd
          · exact hok.later j s h hj hd hs'
      have hc1 := hcalm a w mid.grow hlean
      unfold wpOp
      simp only [ho, Region.wanted, hok.guard, if_true]
      refine .inl (wp_of_calm hc1 fun v w' hF hg => ih _ _ _ ?_ ?_)
      · have := left_set hin hun; omega
      · refine ⟨mid.head.set hi hin, mid.grow.trans hg, by rw [size_put]; exact mid.size, by rw [defers_put]; exact mid.defers, ?_, ?_⟩
        · intro j s hj hlj hd
          rcases getD_of_set hlj with rfl | hlj'
          · have hd' : o'.dst = some s := by simpa [dstOf, ho] using hd
            rw [hd', rd_put _ _ _ _ (by rw [mid.size]; exact hok.lt s hd'), if_pos rfl]
            exact hF
          · have hne := hlisted j hj hlj'
            have hkeep : rd (a.put o'.dst v) s = rd a s := by
              cases hod : o'.dst with
              | none => rfl
              | some d =>
                have : d ≠ s := fun e => hok.apart j s hj (Ne.symm hne) hd (by rw [hod, e])
                rw [rd_put _ _ _ _ (by rw [mid.size]; exact hok.lt d hod), if_neg this]
            rw [hkeep]
            obtain ⟨oj, hoj, _⟩ := headB_spec hH j hj
            exact (hstep j hj oj hoj).1 _ _ _ (mid.facts j s hj hlj' hd) hg
        · intro s hno
          have hkeep : rd (a.put o'.dst v) s = rd a s := by
            cases hod : o'.dst with
            | none => rfl
            | some d =>
              have hli : (listed.setIfInBounds i true).getD i false = true := by
                have hlt : i < listed.size := by rw [mid.head.size]; omega
                simp [hlt]
              have : d ≠ s := fun e => hno i hin hli (by simp [dstOf, ho, hod, e])
              rw [rd_put _ _ _ _ (by rw [mid.size]; exact hok.lt d hod), if_neg this]
          rw [hkeep]
          exact mid.rest s fun j hj hlj => hno j hj (getD_set_true hlj)

/-! ### the walk in the order of the text -/

/-- Values of which facts hold are laid in their slots. -/
def fillAll : List (Tmp × (Value → World → Prop)) → Act → World → (Act → Prop) → Prop
  | [], a, _, K => K a
  | p :: D, a, w, K => ∀ v, p.2 v w → fillAll D (a.put (some p.1) v) w K

def wpCalm (P : Program) (ops : Array Oper) (B : World) (T : Act → World → Prop) : List (Tmp × (Value → World → Prop)) → List Oper → Act → Prop
  | D, [], a => ∀ w, Grow B w → fillAll D a w (fun a' => T a' w)
  | D, o :: rest, a => ∃ F : Value → World → Prop, Stable F ∧
      (∀ w, Grow B w → fillAll (D.filter fun p => (o.looksAt ops).contains p.1) a w (fun a' => calmAt P o a' w F)) ∧
      ((∃ v, (∀ u w, F u w → u = v) ∧ wpCalm P ops B T D rest (a.put o.dst v)) ∨ (∃ d, o.dst = some d ∧ wpCalm P ops B T ((d, F) :: D) rest a))

/-- One operation that yields one value, whatever world of the region's it meets. -/
theorem calm_val {B : World} {T : Act → World → Prop} {D : List (Tmp × (Value → World → Prop))} {rest : List Oper} {a : Act} {o : Oper} (D' : List (Tmp × (Value → World → Prop))) (v : Value)
    (hD : (D.filter fun p => (o.looksAt ops).contains p.1) = D')
    (hrun : ∀ w, Grow B w → fillAll D' a w (fun a' => calmAt P o a' w (fun u _ => u = v))) (hk : wpCalm P ops B T D rest (a.put o.dst v)) : wpCalm P ops B T D (o :: rest) a :=
  ⟨fun u _ => u = v, fun _ _ _ h _ => h, hD ▸ hrun, .inl ⟨v, fun _ _ h => h, hk⟩⟩

/-- One operation that yields something new, of which F is known. -/
theorem calm_new {B : World} {T : Act → World → Prop} {D : List (Tmp × (Value → World → Prop))} {rest : List Oper} {a : Act} {o : Oper} (D' : List (Tmp × (Value → World → Prop))) (F : Value → World → Prop) (d : Tmp)
    (hd : o.dst = some d) (hD : (D.filter fun p => (o.looksAt ops).contains p.1) = D') (hst : Stable F)
    (hrun : ∀ w, Grow B w → fillAll D' a w (fun a' => calmAt P o a' w F)) (hk : wpCalm P ops B T ((d, F) :: D) rest a) : wpCalm P ops B T D (o :: rest) a :=
  ⟨F, hst, hD ▸ hrun, .inr ⟨d, hd, hk⟩⟩

/-- The slots of D as the frame b has them. -/
def puts (D : List (Tmp × (Value → World → Prop))) (b : Act) (a : Act) : Act := D.foldl (fun a p => a.put (some p.1) (rd b p.1)) a

theorem fillAll_puts {K : Act → Prop} {b : Act} {w : World} : ∀ (D : List (Tmp × (Value → World → Prop))) (a : Act), (∀ p ∈ D, p.2 (rd b p.1) w) → fillAll D a w K → K (puts D b a)
  | [], _, _, h => h
  | p :: D, a, hD, h => fillAll_puts D _ (fun q hq => hD q (by simp [hq])) (h _ (hD p (by simp)))

theorem puts_size (b : Act) : ∀ (D : List (Tmp × (Value → World → Prop))) (a : Act), (puts D b a).tmps.size = a.tmps.size
  | [], _ => rfl
  | _ :: D, _ => (puts_size b D _).trans (size_put _ _ _)

theorem puts_defers (b : Act) : ∀ (D : List (Tmp × (Value → World → Prop))) (a : Act), (puts D b a).defers = a.defers
  | [], _ => rfl
  | _ :: D, _ => (puts_defers b D _).trans (defers_put _ _ _)

theorem rd_puts_out (b : Act) (s : Tmp) : ∀ (D : List (Tmp × (Value → World → Prop))) (a : Act), (∀ p ∈ D, p.1 < a.tmps.size) → (∀ p ∈ D, p.1 ≠ s) → rd (puts D b a) s = rd a s
  | [], _, _, _ => rfl
  | p :: D, a, hb, h => by
    refine (rd_puts_out b s D _ (fun q hq => by rw [size_put]; exact hb q (by simp [hq])) (fun q hq => h q (by simp [hq]))).trans ?_
    rw [rd_put _ _ _ _ (hb p (by simp)), if_neg (h p (by simp))]

theorem rd_puts_in (b : Act) (s : Tmp) : ∀ (D : List (Tmp × (Value → World → Prop))) (a : Act), (∀ p ∈ D, p.1 < a.tmps.size) → (∃ p ∈ D, p.1 = s) → rd (puts D b a) s = rd b s
  | [], _, _, h => by obtain ⟨p, hp, _⟩ := h; cases hp
  | p :: D, a, hb, h => by
    have hb' : ∀ q ∈ D, q.1 < (a.put (some p.1) (rd b p.1)).tmps.size := fun q hq => by rw [size_put]; exact hb q (by simp [hq])
    by_cases h' : ∃ q ∈ D, q.1 = s
    · exact rd_puts_in b s D _ hb' h'
    · refine (rd_puts_out b s D _ hb' (fun q hq e => h' ⟨q, hq, e⟩)).trans ?_
      obtain ⟨q, hq, hqs⟩ := h
      rcases List.mem_cons.1 hq with rfl | hq'
      · rw [rd_put _ _ _ _ (hb q (by simp)), if_pos hqs, hqs]
      · exact absurd ⟨q, hq', hqs⟩ h'

/-- What the walk in the order of the text knows when it has come to operation k. -/
structure Track (ops : Array Oper) (k : Nat) (a0 : Act) (Fs : Nat → Value → World → Prop) (D : List (Tmp × (Value → World → Prop))) (a : Act) : Prop where
  size : a.tmps.size = a0.tmps.size
  defers : a.defers = a0.defers
  there : ∀ p ∈ D, ∃ j, j < k ∧ dstOf ops j = some p.1 ∧ p.2 = Fs j
  known : ∀ j s, j < k → dstOf ops j = some s → (∃ p ∈ D, p.1 = s) ∨ (∀ u w, Fs j u w → u = rd a s)
  rest : ∀ s, (∀ j, j < k → dstOf ops j ≠ some s) → rd a s = rd a0 s

theorem eval_eq_of_rd {a b : Act} {o : Oper} (h : ∀ s ∈ o.looksAt ops, rd a s = rd b s) : ∀ x ∈ o.op.operands, a.eval x = b.eval x := by
  intro x hx
  cases x with
  | tmp t => exact h t (List.mem_append_left _ (List.mem_filterMap.2 ⟨.tmp t, by simpa using hx, rfl⟩))
  | _ => rfl

theorem calm_extract {n : Nat} {a0 : Act} {B : World} {T : Act → World → Prop} (hH : headB md ops n a0.tmps.size = true) :
    ∀ (rest : List Oper) (k : Nat) (Fs : Nat → Value → World → Prop) (D : List (Tmp × (Value → World → Prop))) (a : Act), (∀ j, j < rest.length → rest[j]? = ops[k + j]?) → k + rest.length = n →
      Track ops k a0 Fs D a → wpCalm P ops B T D rest a →
      ∃ Gs : Nat → Value → World → Prop, (∀ j, j < k → Gs j = Fs j) ∧ (∀ i, k ≤ i → i < n → StepOk P ops a0 B Gs i) ∧ ∀ b w, Done ops n a0 B Gs b w → T b w
  | [], k, Fs, D, a, _, hk, tr, h => by
    have hkn : k = n := by simpa using hk
    subst hkn
    refine ⟨Fs, fun _ _ => rfl, fun i h1 h2 => by omega, fun b w hd => ?_⟩
    have hb : ∀ p ∈ D, p.1 < a.tmps.size := by
      intro p hp
      obtain ⟨j, hj, hdj, _⟩ := tr.there p hp
      obtain ⟨o, ho, hok⟩ := headB_spec hH j hj
      rw [tr.size]
      exact hok.lt p.1 (by simpa [dstOf, ho] using hdj)
    have h1 := fillAll_puts (b := b) D a (fun p hp => by
      obtain ⟨j, hj, hdj, he⟩ := tr.there p hp
      rw [he]
      exact hd.facts j p.1 hj hdj) (h w hd.grow)
    have he : puts D b a = b := by
      refine act_ext ((puts_size b D a).trans (tr.size.trans hd.size.symm)) ((puts_defers b D a).trans (tr.defers.trans hd.defers.symm)) fun s => ?_
      by_cases hin : ∃ p ∈ D, p.1 = s
      · exact rd_puts_in b s D a hb hin
      · rw [rd_puts_out b s D a hb (fun p hp e => hin ⟨p, hp, e⟩)]
        by_cases hw : ∃ j, j < k ∧ dstOf ops j = some s
        · obtain ⟨j, hj, hdj⟩ := hw
          rcases tr.known j s hj hdj with h' | h'
          · exact absurd h' hin
          · exact (h' _ w (hd.facts j s hj hdj)).symm
        · rw [tr.rest s (fun j hj e => hw ⟨j, hj, e⟩), hd.rest s (fun j hj e => hw ⟨j, hj, e⟩)]
    rw [he] at h1
    exact h1
  | o :: rest, k, Fs, D, a, hl, hk, tr, h => by
    obtain ⟨F, hstab, hcalm, hnext⟩ := h
    have ho : ops[k]? = some o := by simpa using (hl 0 (by simp)).symm
    have hkn : k < n := by simp only [List.length_cons] at hk; omega
    obtain ⟨o', ho', hok⟩ := headB_spec hH k hkn
    have : o' = o := Option.some.inj (ho'.symm.trans ho)
    subst this
    have hb : ∀ p ∈ D, p.1 < a.tmps.size := by
      intro p hp
      obtain ⟨j, hj, hdj, _⟩ := tr.there p hp
      obtain ⟨oj, hoj, hokj⟩ := headB_spec hH j (by omega)
      rw [tr.size]
      exact hokj.lt p.1 (by simpa [dstOf, hoj] using hdj)
    -- the step at k, under whatever extension
    have step : ∀ Gs : Nat → Value → World → Prop, (∀ j, j < k → Gs j = Fs j) → Gs k = F → StepOk P ops a0 B Gs k := by
      intro Gs hG hGk o2 ho2
      have : o2 = o' := Option.some.inj (ho2.symm.trans ho)
      subst this
      rw [hGk]
      refine ⟨hstab, fun b w hg hlean => ?_⟩
      have hfill := hcalm w hg
      have h1 := fillAll_puts (b := b) _ a (fun p hp => by
        obtain ⟨hpD, hpl⟩ := List.mem_filter.1 hp
        obtain ⟨j, hj, hdj, he⟩ := tr.there p hpD
        rw [he, ← hG j hj]
        exact (hlean p.1 (by simpa using hpl)).1 j hj hdj) hfill
      have hb' : ∀ p ∈ D.filter (fun p => (o2.looksAt ops).contains p.1), p.1 < a.tmps.size := fun p hp => hb p (List.mem_filter.1 hp).1
      have hag : ∀ s ∈ o2.looksAt ops, rd b s = rd (puts (D.filter fun p => (o2.looksAt ops).contains p.1) b a) s := by
        intro s hs
        by_cases hin : ∃ p ∈ D, p.1 = s
        · obtain ⟨p, hp, hps⟩ := hin
          exact (rd_puts_in b s _ a hb' ⟨p, List.mem_filter.2 ⟨hp, by simpa [hps] using hs⟩, hps⟩).symm
        · rw [rd_puts_out b s _ a hb' (fun p hp e => hin ⟨p, (List.mem_filter.1 hp).1, e⟩)]
          by_cases hw : ∃ j, j < k ∧ dstOf ops j = some s
          · obtain ⟨j, hj, hdj⟩ := hw
            rcases tr.known j s hj hdj with h' | h'
            · exact absurd h' hin
            · exact h' _ w (by rw [← hG j hj]; exact (hlean s hs).1 j hj hdj)
          · rw [(hlean s hs).2 (fun j hj e => hw ⟨j, hj, e⟩), tr.rest s (fun j hj e => hw ⟨j, hj, e⟩)]
      unfold calmAt at h1 ⊢
      rw [execOp_congr o2 hok.sel (eval_eq_of_rd hag)]
      exact h1
    let Fs' : Nat → Value → World → Prop := fun j => if j = k then F else Fs j
    have hFk : Fs' k = F := by simp [Fs']
    have hFj : ∀ j, j < k → Fs' j = Fs j := fun j hj => by simp [Fs', Nat.ne_of_lt hj]
    have hl' : ∀ j, j < rest.length → rest[j]? = ops[k + 1 + j]? := fun j hj => by
      have := hl (j + 1) (by simp; omega)
      simpa [Nat.add_assoc, Nat.add_comm 1 j] using this
    have hdk : dstOf ops k = o'.dst := by simp [dstOf, ho]
    have close : ∀ D' a', Track ops (k + 1) a0 Fs' D' a' → wpCalm P ops B T D' rest a' →
        ∃ Gs : Nat → Value → World → Prop, (∀ j, j < k → Gs j = Fs j) ∧ (∀ i, k ≤ i → i < n → StepOk P ops a0 B Gs i) ∧ ∀ b w, Done ops n a0 B Gs b w → T b w := by
      intro D' a' tr' hw
      obtain ⟨Gs, hG1, hG2, hG3⟩ := calm_extract hH rest (k + 1) Fs' D' a' hl' (by simp only [List.length_cons] at hk; omega) tr' hw
      have hGj : ∀ j, j < k → Gs j = Fs j := fun j hj => (hG1 j (by omega)).trans (hFj j hj)
      refine ⟨Gs, hGj, fun i h1 h2 => ?_, hG3⟩
      by_cases hik : i = k
      · subst hik; exact step Gs hGj ((hG1 i (by omega)).trans hFk)
      · exact hG2 i (by omega) h2
    rcases hnext with ⟨v, huniq, hw⟩ | ⟨d, hd, hw⟩
    · refine close D _ ⟨by rw [size_put]; exact tr.size, by rw [defers_put]; exact tr.defers, ?_, ?_, ?_⟩ hw
      · intro p hp
        obtain ⟨j, hj, hdj, he⟩ := tr.there p hp
        exact ⟨j, by omega, hdj, by rw [hFj j hj]; exact he⟩
      · intro j s hj hdj
        by_cases hjk : j = k
        · subst hjk
          right
          intro u w hu
          rw [hFk] at hu
          rw [hdk] at hdj
          rw [hdj, rd_put _ _ _ _ (by rw [tr.size]; exact hok.lt s hdj), if_pos rfl]
          exact huniq u w hu
        · have hj' : j < k := by omega
          rw [hFj j hj']
          rcases tr.known j s hj' hdj with h' | h'
          · exact .inl h'
          · right
            intro u w hu
            rw [h' u w hu]
            cases hod : o'.dst with
            | none => rfl
            | some d =>
              have : d ≠ s := fun e => hok.apart j s (by omega) (Ne.symm hjk) hdj (by rw [hod, e])
              rw [rd_put _ _ _ _ (by rw [tr.size]; exact hok.lt d hod), if_neg this]
      · intro s hno
        have h1 := tr.rest s (fun j hj => hno j (by omega))
        rw [← h1]
        cases hod : o'.dst with
        | none => rfl
        | some d =>
          have : d ≠ s := fun e => hno k (by omega) (by rw [hdk, hod, e])
          rw [rd_put _ _ _ _ (by rw [tr.size]; exact hok.lt d hod), if_neg this]
    · refine close ((d, F) :: D) a ⟨tr.size, tr.defers, ?_, ?_, ?_⟩ hw
      · intro p hp
        rcases List.mem_cons.1 hp with rfl | hp'
        · exact ⟨k, by omega, by rw [hdk]; exact hd, hFk.symm⟩
        · obtain ⟨j, hj, hdj, he⟩ := tr.there p hp'
          exact ⟨j, by omega, hdj, by rw [hFj j hj]; exact he⟩
      · intro j s hj hdj
        by_cases hjk : j = k
        · subst hjk
          rw [hdk, hd] at hdj
          exact .inl ⟨(d, F), by simp, Option.some.inj hdj⟩
        · have hj' : j < k := by omega
          rw [hFj j hj']
          rcases tr.known j s hj' hdj with ⟨p, hp, hps⟩ | h'
          · exact .inl ⟨p, by simp [hp], hps⟩
          · exact .inr h'
      · intro s hno
        exact tr.rest s (fun j hj => hno j (by omega))

/-- The whole closed check. -/
def calmB (ops : Array Oper) (n m : Nat) : Bool :=
  headB .any ops n m && decide (n < ops.size) && Region.sinkB .any ops n && Region.chainB .any ops n && Region.seqB .any ops (ops.size - n) n (headListed n ops.size)

/-- **A region that draws its order: its first n operations calm, the rest in one forced order.** -/
theorem wp_region_calm {id : Nat} {Q : Exit → Act → World → Prop} {a : Act} {w : World} {l : List Oper} (n : Nat) (m : Nat) (hm : P.follows .mixedOrders = true) (hsz : a.tmps.size = m) (hB : calmB l.toArray n m = true)
    (h : wpCalm P l.toArray w.drew (fun a' w' => wpList P l.toArray Q (l.drop n) a' w') [] (l.take n) a) : (Code.region id l.toArray true).wp P Q a w := by
  simp only [calmB, Bool.and_eq_true, decide_eq_true_eq] at hB
  obtain ⟨⟨⟨⟨hH, hn⟩, hs⟩, hc⟩, hseq⟩ := hB
  subst hsz
  have hn' : n < l.length := by simpa using hn
  obtain ⟨Gs, _, hstep, hfin⟩ := calm_extract (md := .any) (ops := l.toArray) hH (l.take n) 0 (fun _ _ _ => False) [] a (fun j hj => by
      have hj' : j < n := by simp at hj; omega
      simp [hj']) (by simp; omega)
    ⟨rfl, rfl, fun p hp => (by cases hp), fun j s hj => (by omega), fun s _ => rfl⟩ h
  refine wp_region_any hm ?_
  have inv0 : HeadInv .any l.toArray n (Array.replicate l.toArray.size false) :=
    ⟨by simp, fun j oj _ hl => (by rw [getD_replicate_false] at hl; cases hl), fun t _ ht => getD_in (by simpa using ht) (getD_replicate_false _ _)⟩
  have hll : (l.drop n).length = l.toArray.size - n := by simp
  have hleft : left n (Array.replicate l.toArray.size false) ≤ n := by
    unfold left
    exact Nat.le_trans List.countP_le_length (by simp)
  have := wpAny_calm (md := .any) (P := P) (Q := Q) (l := l.drop n) (B := { w with drawn := w.drawn + 1 }) (Fs := Gs) hH hn hs hc hseq (fun j => by simp [List.getElem?_drop]) hll
    (fun i hi => hstep i (Nat.zero_le _) hi) hfin n (Array.replicate l.toArray.size false) a { w with drawn := w.drawn + 1 } hleft
    ⟨inv0, Grow.refl _, rfl, rfl, fun j s _ hlj => (by rw [getD_replicate_false] at hlj; cases hlj), fun s _ => rfl⟩
  rw [hll, show n + (l.toArray.size - n) = l.toArray.size by omega] at this
  exact this

/-- The same, what follows behind a variable. -/
theorem wp_region_calmK {id : Nat} {Q : Exit → Act → World → Prop} {a : Act} {w : World} {l : List Oper} (n : Nat) (m : Nat) (hm : P.follows .mixedOrders = true) (hsz : a.tmps.size = m) (hB : calmB l.toArray n m = true)
    (h : ∀ T : Act → World → Prop, (∀ a' w', wpList P l.toArray Q (l.drop n) a' w' → T a' w') → wpCalm P l.toArray w.drew T [] (l.take n) a) : (Code.region id l.toArray true).wp P Q a w :=
  wp_region_calm n m hm hsz hB (h _ fun _ _ h => h)

attribute [go_sem] calmAt calmOf

end
end Go.Proofs.YtdpmbchamefkmaaGreatDoor
