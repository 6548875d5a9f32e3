/- The plain law of the cyclic redundancy check: eight turns of the register a byte, one table look-up a byte, and eight table look-ups for eight bytes at once come to the same number. -/
namespace Go.Proofs.Ytpcbdomhhoffkaa.Crc

/-- the polynomial, reflected -/
def poly : Nat := 3988292384
/-- one turn of the register -/
def turn (c : Nat) : Nat := if c % 2 = 1 then (c / 2) ^^^ poly else c / 2
def turns : Nat → Nat → Nat
  | 0, c => c
  | n + 1, c => turns n (turn c)

theorem xor_mod2 (a b : Nat) : (a ^^^ b) % 2 = (a % 2 + b % 2) % 2 := by
  have h : ((a ^^^ b) % 2 = 1) ↔ ¬ (a % 2 = 1 ↔ b % 2 = 1) := Nat.xor_mod_two_eq_one
  omega
theorem xor_div2 (a b : Nat) : (a ^^^ b) / 2 = (a / 2) ^^^ (b / 2) := by
  have := Nat.shiftRight_xor_distrib (a := a) (b := b) (i := 1)
  simpa [Nat.shiftRight_eq_div_pow] using this
theorem turn_xor (a b : Nat) : turn (a ^^^ b) = turn a ^^^ turn b := by
  unfold turn
  rw [xor_mod2, xor_div2]
  rcases Nat.mod_two_eq_zero_or_one a with ha | ha <;> rcases Nat.mod_two_eq_zero_or_one b with hb | hb <;> simp [ha, hb]
  · rw [Nat.xor_assoc]
  · rw [Nat.xor_assoc, Nat.xor_assoc, Nat.xor_comm poly (b/2)]
  · rw [Nat.xor_comm (b/2) poly, ← Nat.xor_assoc, Nat.xor_assoc (a/2) poly poly]; simp
theorem turns_xor (n : Nat) : ∀ a b, turns n (a ^^^ b) = turns n a ^^^ turns n b := by
  induction n with
  | zero => intro a b; rfl
  | succ n ih => intro a b; simp only [turns]; rw [turn_xor, ih]
theorem turns_add (m n : Nat) : ∀ c, turns (m + n) c = turns n (turns m c) := by
  induction m with
  | zero => intro c; simp [turns]
  | succ m ih => intro c; rw [Nat.succ_add]; simp only [turns]; rw [ih]
theorem turns_succ (n c : Nat) : turns (n + 1) c = turn (turns n c) := by
  rw [turns_add n 1]; rfl
theorem turn_double (c : Nat) : turn (2 * c) = c := by
  unfold turn; rw [if_neg (by omega)]; omega
theorem turns_shift (n : Nat) : ∀ c, turns n (2 ^ n * c) = c := by
  induction n with
  | zero => intro c; simp [turns]
  | succ n ih => intro c; simp only [turns]; rw [Nat.pow_succ, Nat.mul_assoc, Nat.mul_comm, Nat.mul_assoc, turn_double, Nat.mul_comm]; exact ih c
theorem turns8_shift (c : Nat) : turns 8 (256 * c) = c := turns_shift 8 c

theorem poly_lt : poly < 2 ^ 32 := by decide
theorem turn_lt (c : Nat) (h : c < 2 ^ 32) : turn c < 2 ^ 32 := by
  unfold turn
  split
  · exact Nat.xor_lt_two_pow (by omega) poly_lt
  · omega
theorem turns_lt (n : Nat) : ∀ c, c < 2 ^ 32 → turns n c < 2 ^ 32 := by
  induction n with
  | zero => intro c h; exact h
  | succ n ih => intro c h; exact ih _ (turn_lt c h)

attribute [local irreducible] turns turn
/-- low bits and high bits make a number -/
theorem split_at (k x : Nat) : x = (x % 2 ^ k) ^^^ (2 ^ k * (x / 2 ^ k)) := by
  apply Nat.eq_of_testBit_eq
  intro i
  rw [Nat.testBit_xor, Nat.testBit_mod_two_pow, Nat.testBit_two_pow_mul, Nat.testBit_div_two_pow]
  by_cases h : i < k
  · simp [h, Nat.not_le.2 h]
  · simp [h, Nat.not_lt.1 h]
theorem split8 (x : Nat) : x = (x % 256) ^^^ (256 * (x / 256)) := split_at 8 x
theorem join_at (k a b : Nat) (h : a < 2 ^ k) : a + 2 ^ k * b = a ^^^ (2 ^ k * b) := by
  have h1 := split_at k (a + 2 ^ k * b)
  rw [Nat.add_mul_mod_self_left, Nat.mod_eq_of_lt h, Nat.add_mul_div_left _ _ (Nat.two_pow_pos k), Nat.div_eq_of_lt h, Nat.zero_add] at h1
  exact h1

/-- a byte by the table -/
theorem byte_by_table (c b : Nat) : turns 8 (c ^^^ b) = turns 8 ((c % 256) ^^^ b) ^^^ (c / 256) := by
  have h : c ^^^ b = ((c % 256) ^^^ b) ^^^ (256 * (c / 256)) := by
    rw [Nat.xor_assoc, Nat.xor_comm b, ← Nat.xor_assoc, ← split8 c]
  rw [h, turns_xor, turns8_shift]

/-- all bytes -/
def over : Nat → List Nat → Nat
  | c, [] => c
  | c, b :: l => over (turns 8 (c ^^^ b)) l
theorem over_append (l m : List Nat) : ∀ c, over c (l ++ m) = over (over c l) m := by
  induction l with
  | nil => intro c; rfl
  | cons b l ih => intro c; exact ih _
theorem over_lt (l : List Nat) : ∀ c, c < 2 ^ 32 → (∀ b ∈ l, b < 256) → over c l < 2 ^ 32 := by
  induction l with
  | nil => intro c h _; exact h
  | cons b l ih =>
    intro c h hl
    refine ih _ (turns_lt 8 _ (Nat.xor_lt_two_pow h ?_)) fun x hx => hl x (List.mem_cons_of_mem _ hx)
    have := hl b List.mem_cons_self
    omega

/-- the eight tables, one behind the other -/
def tables (n : Nat) : Nat := turns (8 * (n / 256 + 1)) (n % 256)
theorem tables_at (j i : Nat) (h : i < 256) : tables (j * 256 + i) = turns (8 * (j + 1)) i := by
  unfold tables
  rw [show (j * 256 + i) / 256 = j by omega, show (j * 256 + i) % 256 = i by omega]
/-- the next table's entry out of the one ahead of it -/
theorem tables_next (j i : Nat) (h : i < 256) : tables ((j + 1) * 256 + i) = tables (tables (j * 256 + i) % 256) ^^^ (tables (j * 256 + i) / 256) := by
  rw [tables_at _ _ h, tables_at _ _ h]
  have h1 := tables_at 0 (turns (8 * (j + 1)) i % 256) (Nat.mod_lt _ (by decide))
  rw [Nat.zero_mul, Nat.zero_add] at h1
  rw [h1]
  have h2 := byte_by_table (turns (8 * (j + 1)) i) 0
  rw [Nat.xor_zero, Nat.xor_zero] at h2
  show turns (8 * (j + 1 + 1)) i = turns 8 _ ^^^ _
  rw [show 8 * (j + 1 + 1) = 8 * (j + 1) + 8 by omega, turns_add, h2]
theorem tables_lt (n : Nat) : tables n < 2 ^ 32 := turns_lt _ _ (by have := Nat.mod_lt n (show 256 > 0 by decide); omega)

/-- four bytes as one number, the lowest first -/
def le4 (p0 p1 p2 p3 : Nat) : Nat := p0 + 256 * p1 + 65536 * p2 + 16777216 * p3
theorem le4_xor (p0 p1 p2 p3 : Nat) (h0 : p0 < 256) (h1 : p1 < 256) (h2 : p2 < 256) : le4 p0 p1 p2 p3 = p0 ^^^ (256 * p1) ^^^ (65536 * p2) ^^^ (16777216 * p3) := by
  have e1 : p0 + 256 * p1 = p0 ^^^ (256 * p1) := join_at 8 p0 p1 h0
  have e2 : p0 + 256 * p1 + 65536 * p2 = (p0 + 256 * p1) ^^^ (65536 * p2) := join_at 16 _ p2 (by omega)
  have e3 : p0 + 256 * p1 + 65536 * p2 + 16777216 * p3 = (p0 + 256 * p1 + 65536 * p2) ^^^ (16777216 * p3) := join_at 24 _ p3 (by omega)
  unfold le4
  rw [e3, e2, e1]
theorem turns_up (n k c : Nat) : turns (k + n) (2 ^ k * c) = turns n c := by rw [turns_add, turns_shift]
theorem up8 (n c : Nat) : turns (8 + n) (256 * c) = turns n c := turns_up n 8 c
theorem up16 (n c : Nat) : turns (16 + n) (65536 * c) = turns n c := turns_up n 16 c
theorem up24 (n c : Nat) : turns (24 + n) (16777216 * c) = turns n c := by
  have h := turns_up n 24 c
  rwa [show (2 : Nat) ^ 24 = 16777216 by decide] at h
/-- a word, byte by byte -/
theorem turns_word (x : Nat) : turns 64 x = turns 64 (x % 256) ^^^ turns 56 (x / 256 % 256) ^^^ turns 48 (x / 65536 % 256) ^^^ turns 40 (x / 16777216) := by
  have a1 : turns 64 x = turns 64 (x % 256) ^^^ turns 56 (x / 256) := by
    conv => lhs; rw [split8 x]
    rw [turns_xor, show turns 64 (256 * (x / 256)) = turns 56 (x / 256) from up8 56 _]
  have a2 : turns 56 (x / 256) = turns 56 (x / 256 % 256) ^^^ turns 48 (x / 65536) := by
    conv => lhs; rw [split8 (x / 256)]
    rw [turns_xor, show turns 56 (256 * (x / 256 / 256)) = turns 48 (x / 256 / 256) from up8 48 _, Nat.div_div_eq_div_mul]
  have a3 : turns 48 (x / 65536) = turns 48 (x / 65536 % 256) ^^^ turns 40 (x / 16777216) := by
    conv => lhs; rw [split8 (x / 65536)]
    rw [turns_xor, show turns 48 (256 * (x / 65536 / 256)) = turns 40 (x / 65536 / 256) from up8 40 _, Nat.div_div_eq_div_mul]
  rw [a1, a2, a3]
  simp only [Nat.xor_assoc]

/-- EIGHT BYTES AT ONCE -/
theorem eight (c p0 p1 p2 p3 p4 p5 p6 p7 : Nat) (h0 : p0 < 256) (h1 : p1 < 256) (h2 : p2 < 256) (x : Nat) (hx : x = c ^^^ le4 p0 p1 p2 p3) :
    over c [p0, p1, p2, p3, p4, p5, p6, p7] =
      turns 8 p7 ^^^ turns 16 p6 ^^^ turns 24 p5 ^^^ turns 32 p4 ^^^ turns 40 (x / 16777216) ^^^ turns 48 (x / 65536 % 256) ^^^ turns 56 (x / 256 % 256) ^^^ turns 64 (x % 256) := by
  have hw := turns_word x
  have hl : turns 64 x = turns 64 c ^^^ turns 64 p0 ^^^ turns 56 p1 ^^^ turns 48 p2 ^^^ turns 40 p3 := by
    rw [hx, le4_xor p0 p1 p2 p3 h0 h1 h2]
    simp only [turns_xor]
    rw [show turns 64 (256 * p1) = turns 56 p1 from up8 56 _, show turns 64 (65536 * p2) = turns 48 p2 from up16 48 _, show turns 64 (16777216 * p3) = turns 40 p3 from up24 40 _]
    simp only [Nat.xor_assoc]
  have hr : over c [p0, p1, p2, p3, p4, p5, p6, p7] = turns 64 x ^^^ (turns 32 p4 ^^^ turns 24 p5 ^^^ turns 16 p6 ^^^ turns 8 p7) := by
    rw [hl]
    simp only [over, turns_xor, ← turns_add, Nat.reduceAdd, Nat.xor_assoc]
  rw [hr, hw]
  ac_rfl

theorem not_lt (c : Nat) : 4294967295 - c < 2 ^ 32 := by omega
end Go.Proofs.Ytpcbdomhhoffkaa.Crc
