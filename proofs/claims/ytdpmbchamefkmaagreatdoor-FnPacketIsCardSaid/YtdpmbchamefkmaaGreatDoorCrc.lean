/-
CRC-32 with the polynomial of Castagnoli over natural numbers: eight bytes at a time by tables is bit by bit.
-/
namespace Go.Proofs.YtdpmbchamefkmaaGreatDoor.Crc

/-- the polynomial -/
def P : Nat := 0x82f63b78

/-- one round of a bit -/
def rnd (x : Nat) : Nat := if x % 2 = 1 then (x / 2) ^^^ P else x / 2

/-- so many rounds -/
def rnds : Nat → Nat → Nat
  | 0, x => x
  | n + 1, x => rnds n (rnd x)

theorem rnds_add (m n x : Nat) : rnds (m + n) x = rnds n (rnds m x) := by
  induction m generalizing x with
  | zero => simp [rnds]
  | succ m ih => rw [Nat.succ_add]; exact ih (rnd x)

theorem rnds_succ' (n x : Nat) : rnds (n + 1) x = rnd (rnds n x) := rnds_add n 1 x

theorem xor_mod2 (a b : Nat) : (a ^^^ b) % 2 = (a % 2 + b % 2) % 2 := by
  have := @Nat.xor_mod_two_pow a b 1
  simp only [Nat.pow_one] at this
  rw [this]
  have ha : a % 2 = 0 ∨ a % 2 = 1 := by omega
  have hb : b % 2 = 0 ∨ b % 2 = 1 := by omega
  rcases ha with ha | ha <;> rcases hb with hb | hb <;> rw [ha, hb] <;> rfl

theorem xor_half (a b : Nat) : (a ^^^ b) / 2 = a / 2 ^^^ b / 2 := by
  have := @Nat.shiftRight_xor_distrib 1 a b
  simpa [Nat.shiftRight_eq_div_pow] using this

theorem xlc (a b c : Nat) : a ^^^ (b ^^^ c) = b ^^^ (a ^^^ c) := by rw [← Nat.xor_assoc, Nat.xor_comm a, Nat.xor_assoc]

theorem rnd_xor (a b : Nat) : rnd (a ^^^ b) = rnd a ^^^ rnd b := by
  unfold rnd
  rw [xor_mod2, xor_half]
  have ha : a % 2 = 0 ∨ a % 2 = 1 := by omega
  have hb : b % 2 = 0 ∨ b % 2 = 1 := by omega
  rcases ha with ha | ha <;> rcases hb with hb | hb <;> rw [ha, hb] <;> simp
  · exact (Nat.xor_assoc _ _ _)
  · rw [Nat.xor_assoc, Nat.xor_assoc, Nat.xor_comm P]
  · calc a / 2 ^^^ b / 2 = (a / 2 ^^^ b / 2) ^^^ (P ^^^ P) := by simp
      _ = _ := by simp only [Nat.xor_assoc, Nat.xor_comm, xlc]

theorem rnds_xor (n a b : Nat) : rnds n (a ^^^ b) = rnds n a ^^^ rnds n b := by
  induction n generalizing a b with
  | zero => rfl
  | succ n ih => simp only [rnds]; rw [rnd_xor, ih]

theorem rnds_shl (n x : Nat) : rnds n (x * 2 ^ n) = x := by
  induction n generalizing x with
  | zero => simp [rnds]
  | succ n ih =>
    simp only [rnds]
    have h : rnd (x * 2 ^ (n + 1)) = x * 2 ^ n := by
      unfold rnd
      have e : x * 2 ^ (n + 1) = 2 * (x * 2 ^ n) := by rw [Nat.pow_succ]; simp only [Nat.mul_comm, Nat.mul_left_comm]
      rw [e, if_neg (by omega)]
      omega
    rw [h, ih]

theorem rnd_lt (x : Nat) (h : x < 2 ^ 32) : rnd x < 2 ^ 32 := by
  unfold rnd
  split
  · exact Nat.xor_lt_two_pow (by omega) (by decide)
  · omega

theorem rnds_lt (n x : Nat) (h : x < 2 ^ 32) : rnds n x < 2 ^ 32 := by
  induction n generalizing x with
  | zero => exact h
  | succ n ih => exact ih _ (rnd_lt x h)

/-- a byte's worth of rounds, k times -/
def R (k x : Nat) : Nat := rnds (8 * k) x

theorem R_xor (k a b : Nat) : R k (a ^^^ b) = R k a ^^^ R k b := rnds_xor _ _ _
theorem R_lt (k x : Nat) (h : x < 2 ^ 32) : R k x < 2 ^ 32 := rnds_lt _ _ h
theorem R_zero (x : Nat) : R 0 x = x := rfl
theorem R_add (j k x : Nat) : R (j + k) x = R k (R j x) := by
  unfold R; rw [Nat.mul_add]; exact rnds_add _ _ _
theorem R_shl (j k x : Nat) : R (k + j) (x * 256 ^ j) = R k x := by
  rw [Nat.add_comm, R_add]
  have : R j (x * 256 ^ j) = x := by
    unfold R
    have e : (256 : Nat) ^ j = 2 ^ (8 * j) := by rw [Nat.pow_mul]
    rw [e]; exact rnds_shl _ _
  rw [this]

/-- parts that share no bit: the sum is the xor -/
theorem add_xor (i a b : Nat) (hb : b < 2 ^ i) : a * 2 ^ i + b = (a * 2 ^ i) ^^^ b := by
  apply Nat.eq_of_testBit_eq
  intro j
  rw [Nat.testBit_xor, Nat.mul_comm a, Nat.testBit_two_pow_mul_add _ hb, Nat.testBit_two_pow_mul]
  by_cases hj : j < i
  · simp [hj, Nat.not_le.2 hj]
  · have : b.testBit j = false := Nat.testBit_lt_two_pow (Nat.lt_of_lt_of_le hb (Nat.pow_le_pow_right (by omega) (by omega)))
    simp [hj, this, Nat.not_lt.1 hj]

/-- low byte and the rest -/
theorem split8 (x : Nat) : x = (x / 256 * 256) ^^^ (x % 256) := by
  have := add_xor 8 (x / 256) (x % 256) (by omega)
  simp only [show (2 : Nat) ^ 8 = 256 from rfl] at this
  rw [← this]; omega

theorem R1_split (x : Nat) : R 1 x = R 1 (x % 256) ^^^ (x / 256) := by
  conv => lhs; rw [split8 x]
  rw [R_xor, Nat.xor_comm]
  congr 1
  have := R_shl 1 0 (x / 256)
  simpa [R_zero] using this

/-- the table -/
def tab (i : Nat) : Nat := R 1 i
/-- table number j -/
def tabs (j i : Nat) : Nat := R (j + 1) i

theorem tabs_zero (i : Nat) : tabs 0 i = tab i := rfl
theorem tabs_succ (j i : Nat) : tabs (j + 1) i = tab (tabs j i % 256) ^^^ (tabs j i / 256) := by
  unfold tabs tab
  rw [R_add (j + 1) 1, R1_split]

theorem tabs_lt (j i : Nat) (h : i < 256) : tabs j i < 4294967296 := R_lt _ _ (by omega)
theorem tab_lt (i : Nat) (h : i < 256) : tab i < 4294967296 := R_lt _ _ (by omega)

/-- a byte is taken in -/
def upd (s b : Nat) : Nat := R 1 (s ^^^ b)

theorem xor_mod256 (a b : Nat) : (a ^^^ b) % 256 = (a % 256) ^^^ (b % 256) := @Nat.xor_mod_two_pow a b 8
theorem xor_div256 (a b : Nat) : (a ^^^ b) / 256 = (a / 256) ^^^ (b / 256) := by
  have := @Nat.shiftRight_xor_distrib 8 a b
  simpa [Nat.shiftRight_eq_div_pow] using this

theorem upd_tab (s b : Nat) (hb : b < 256) : upd s b = tab ((s % 256) ^^^ b) ^^^ (s / 256) := by
  unfold upd tab
  rw [R1_split, xor_mod256, xor_div256, Nat.mod_eq_of_lt hb, Nat.div_eq_of_lt hb, Nat.xor_zero]

theorem upd_lt (s b : Nat) (hs : s < 4294967296) (hb : b < 256) : upd s b < 4294967296 := by
  unfold upd; exact R_lt _ _ (Nat.xor_lt_two_pow (by simpa using hs) (by omega))

/-- many bytes are taken in -/
def upds (s : Nat) (l : List Nat) : Nat := l.foldl upd s

theorem upds_append (s : Nat) (a b : List Nat) : upds s (a ++ b) = upds (upds s a) b := List.foldl_append
theorem upds_cons (s b : Nat) (l : List Nat) : upds s (b :: l) = upds (upd s b) l := rfl
theorem upds_nil (s : Nat) : upds s [] = s := rfl

theorem upds_lt (s : Nat) (l : List Nat) (hs : s < 4294967296) (hl : ∀ b ∈ l, b < 256) : upds s l < 4294967296 := by
  induction l generalizing s with
  | nil => exact hs
  | cons b l ih => exact ih _ (upd_lt s b hs (hl b (by simp))) fun x hx => hl x (by simp [hx])

theorem upds_R (s : Nat) (l : List Nat) : upds s l = R l.length s ^^^ upds 0 l := by
  induction l generalizing s with
  | nil => simp [upds, R_zero]
  | cons b l ih =>
    rw [upds_cons, upds_cons, ih, ih (upd 0 b)]
    unfold upd
    rw [List.length_cons, R_xor, R_xor, R_xor, R_xor, Nat.add_comm, R_add]
    have z : R 1 0 = 0 := by decide
    rw [z]
    have z2 : ∀ n, R n 0 = 0 := by
      intro n
      have := R_xor n 0 0
      simp only [Nat.xor_self] at this
      exact this
    rw [z2, Nat.zero_xor, Nat.xor_assoc]

/-- four bytes, the lowest first -/
def le4 (b0 b1 b2 b3 : Nat) : Nat := b0 + b1 * 256 + b2 * 65536 + b3 * 16777216

theorem shape (u k m n v r : Nat) (h : k * m = n) (e : u = v * k + r) : u * m = v * n + r * m := by
  rw [e, ← h, Nat.add_mul, Nat.mul_assoc]

theorem split4 (x : Nat) : x = (x % 256) ^^^ (x / 256 % 256 * 256) ^^^ (x / 65536 % 256 * 65536) ^^^ (x / 16777216 * 16777216) := by
  have h1 := add_xor 8 (x / 256) (x % 256) (by omega)
  have h2 := add_xor 16 (x / 65536) (x / 256 % 256 * 256) (by omega)
  have h3 := add_xor 24 (x / 16777216) (x / 65536 % 256 * 65536) (by omega)
  simp only [show (2 : Nat) ^ 8 = 256 from rfl, show (2 : Nat) ^ 16 = 65536 from rfl, show (2 : Nat) ^ 24 = 16777216 from rfl] at h1 h2 h3
  have e1 : x = x / 256 * 256 ^^^ (x % 256) := by
    have q : x = x / 256 * 256 + x % 256 := by omega
    rw [h1] at q; exact q
  have e2 : x / 256 * 256 = x / 65536 * 65536 ^^^ (x / 256 % 256 * 256) := by
    exact (shape _ 256 256 65536 (x / 65536) (x / 256 % 256) rfl (by omega)).trans h2
  have e3 : x / 65536 * 65536 = x / 16777216 * 16777216 ^^^ (x / 65536 % 256 * 65536) := by
    exact (shape _ 256 65536 16777216 (x / 16777216) (x / 65536 % 256) rfl (by omega)).trans h3
  rw [e2, e3] at e1
  conv => lhs; rw [e1]
  simp only [Nat.xor_assoc, Nat.xor_comm]

/-- the eight bytes at once -/
theorem upds_eight (s b0 b1 b2 b3 b4 b5 b6 b7 : Nat) (h0 : b0 < 256) (h1 : b1 < 256) (h2 : b2 < 256) (x : Nat) (hx : x = s ^^^ le4 b0 b1 b2 b3) :
    upds s [b0, b1, b2, b3, b4, b5, b6, b7] =
      tabs 0 b7 ^^^ tabs 1 b6 ^^^ tabs 2 b5 ^^^ tabs 3 b4 ^^^ tabs 4 (x / 16777216) ^^^ tabs 5 (x / 65536 % 256) ^^^ tabs 6 (x / 256 % 256) ^^^ tabs 7 (x % 256) := by
  have key : upds s [b0, b1, b2, b3, b4, b5, b6, b7] = R 8 x ^^^ (R 4 b4 ^^^ (R 3 b5 ^^^ (R 2 b6 ^^^ R 1 b7))) := by
    have e : ∀ t c0 c1 c2 c3 c4 c5 c6 c7, upds t [c0, c1, c2, c3, c4, c5, c6, c7] = R 8 t ^^^ (R 8 c0 ^^^ (R 7 c1 ^^^ (R 6 c2 ^^^ (R 5 c3 ^^^ (R 4 c4 ^^^ (R 3 c5 ^^^ (R 2 c6 ^^^ R 1 c7))))))) := by
      intro t c0 c1 c2 c3 c4 c5 c6 c7
      simp only [upds, List.foldl, upd]
      simp only [R_xor, ← R_add]
      simp only [Nat.xor_assoc]
    rw [e]
    have hle : le4 b0 b1 b2 b3 = b0 ^^^ (b1 * 256) ^^^ (b2 * 65536) ^^^ (b3 * 16777216) := by
      have e0 : le4 b0 b1 b2 b3 % 256 = b0 := by unfold le4; omega
      have e1 : le4 b0 b1 b2 b3 / 256 % 256 = b1 := by unfold le4; omega
      have e2 : le4 b0 b1 b2 b3 / 65536 % 256 = b2 := by unfold le4; omega
      have e3 : le4 b0 b1 b2 b3 / 16777216 = b3 := by unfold le4; omega
      have := split4 (le4 b0 b1 b2 b3)
      rw [e0, e1, e2, e3] at this
      exact this
    have c1 := R_shl 1 7 b1
    have c2 := R_shl 2 6 b2
    have c3 := R_shl 3 5 b3
    simp only [show (256 : Nat) ^ 1 = 256 from rfl, show (256 : Nat) ^ 2 = 65536 from rfl, show (256 : Nat) ^ 3 = 16777216 from rfl, Nat.reduceAdd] at c1 c2 c3
    rw [hx, hle]
    simp only [R_xor, c1, c2, c3, Nat.xor_assoc]
  rw [key]
  have k := split4 x
  have c1 := R_shl 1 7 (x / 256 % 256)
  have c2 := R_shl 2 6 (x / 65536 % 256)
  have c3 := R_shl 3 5 (x / 16777216)
  simp only [show (256 : Nat) ^ 1 = 256 from rfl, show (256 : Nat) ^ 2 = 65536 from rfl, show (256 : Nat) ^ 3 = 16777216 from rfl, Nat.reduceAdd] at c1 c2 c3
  have k8 : R 8 x = R 8 (x % 256) ^^^ R 7 (x / 256 % 256) ^^^ R 6 (x / 65536 % 256) ^^^ R 5 (x / 16777216) := by
    conv => lhs; rw [k]
    simp only [R_xor, c1, c2, c3]
  rw [k8]
  simp only [tabs, Nat.reduceAdd]
  simp only [Nat.xor_assoc, Nat.xor_comm]

/-- the complement of 32 bits -/
def inv (x : Nat) : Nat := 4294967295 - x
theorem inv_inv (x : Nat) (h : x < 4294967296) : inv (inv x) = x := by unfold inv; omega
theorem inv_lt (x : Nat) : inv x < 4294967296 := by unfold inv; omega

/-- Update: what slicingUpdate comes to -/
def update (c : Nat) (l : List Nat) : Nat := inv (upds (inv c) l)

/-- the checksum of a text -/
def crc (l : List Nat) : Nat := inv (upds 4294967295 l)

theorem update_append (c : Nat) (a b : List Nat) (ha : ∀ x ∈ a, x < 256) : update (update c a) b = update c (a ++ b) := by
  unfold update
  rw [inv_inv _ (upds_lt _ _ (inv_lt c) ha), upds_append]

theorem crc_update (l : List Nat) : crc l = update 0 l := rfl

end Go.Proofs.YtdpmbchamefkmaaGreatDoor.Crc
