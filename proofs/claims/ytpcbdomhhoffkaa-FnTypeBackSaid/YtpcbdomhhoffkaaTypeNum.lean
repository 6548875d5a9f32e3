/- What a message's type comes to in natural numbers: the bits that the Go text takes are the remainders that the standard's figure names, for every number of 14 bits. -/
namespace Go.Proofs.Ytpcbdomhhoffkaa.TypeNum

def below (f : Nat → Bool) : Nat → Bool
  | 0 => true
  | n + 1 => f n && below f n
theorem below_at (f : Nat → Bool) : ∀ n, below f n = true → ∀ k, k < n → f k = true
  | 0, _, k, h => absurd h (Nat.not_lt_zero k)
  | n + 1, h, k, hk => by
    simp only [below, Bool.and_eq_true] at h
    by_cases e : k = n
    · subst e; exact h.1
    · exact below_at f n h.2 k (by omega)

def mth (v : Nat) : Nat := v % 16 + v / 32 % 8 * 16 + v / 512 % 32 * 128
def cls (v : Nat) : Nat := v / 16 % 2 + v / 256 % 2 * 2
def typ (m c : Nat) : Nat := m % 16 + c % 2 * 16 + m / 16 % 8 * 32 + c / 2 % 2 * 256 + m / 128 % 32 * 512
def specM (v : Nat) : Nat := ((v &&& 15) ||| ((v / 32) &&& 7) * 16) ||| ((v / 512) &&& 31) * 128
def specC (v : Nat) : Nat := ((v / 16) &&& 1) ||| ((v / 256) &&& 1) * 2
def implM (v : Nat) : Nat := (v &&& 15) + ((v / 2) &&& 112) + ((v / 4) &&& 3968)
def implC (v : Nat) : Nat := ((v / 16) &&& 1) + ((v / 128) &&& 2)
def ofType (n : Nat) : Bool := Nat.beq (specM n) (mth n) && (Nat.beq (specC n) (cls n) && (Nat.beq (implM n) (mth n) && Nat.beq (implC n) (cls n)))
theorem ofType_all : below ofType 16384 = true := by decide +kernel
theorem ofType_at (v : Nat) (h : v < 16384) : specM v = mth v ∧ specC v = cls v ∧ implM v = mth v ∧ implC v = cls v := by
  have h := below_at ofType 16384 ofType_all v h
  simp only [ofType, Bool.and_eq_true] at h
  exact ⟨Nat.eq_of_beq_eq_true h.1, Nat.eq_of_beq_eq_true h.2.1, Nat.eq_of_beq_eq_true h.2.2.1, Nat.eq_of_beq_eq_true h.2.2.2⟩

def specT (m c : Nat) : Nat := ((((m &&& 15) ||| (c &&& 1) * 16) ||| ((m / 16) &&& 7) * 32) ||| ((c / 2) &&& 1) * 256) ||| ((m / 128) &&& 31) * 512
def implT (m c : Nat) : Nat := ((m &&& 15) + (m &&& 112) * 2 + (m &&& 3968) * 4) + ((c &&& 1) * 16 + (c &&& 2) * 128)
def toType (n : Nat) : Bool := Nat.beq (specT (n / 4) (n % 4)) (typ (n / 4) (n % 4)) && Nat.beq (implT (n / 4) (n % 4)) (typ (n / 4) (n % 4))
theorem toType_all : below toType 16384 = true := by decide +kernel
theorem toType_at (m c : Nat) (h : m < 4096) (g : c < 4) : specT m c = typ m c ∧ implT m c = typ m c := by
  have h := below_at toType 16384 toType_all (4 * m + c) (by omega)
  simp only [toType, Bool.and_eq_true] at h
  rw [show (4 * m + c) / 4 = m by omega, show (4 * m + c) % 4 = c by omega] at h
  exact ⟨Nat.eq_of_beq_eq_true h.1, Nat.eq_of_beq_eq_true h.2⟩
end Go.Proofs.Ytpcbdomhhoffkaa.TypeNum
