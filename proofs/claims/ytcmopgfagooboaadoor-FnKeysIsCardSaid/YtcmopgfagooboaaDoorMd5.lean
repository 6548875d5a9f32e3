/- The plain mathematics of MD5: the sequence of words that its 64 steps make, the state behind a block, and the state behind all blocks of a list of bytes. -/
namespace Go.Proofs.YtcmopgfagooboaaDoor.Md5

abbrev W := BitVec 32

/-- the 64 numbers -/
def sines : List W := [3614090360, 3905402710, 606105819, 3250441966, 4118548399, 1200080426, 2821735955, 4249261313, 1770035416, 2336552879, 4294925233, 2304563134, 1804603682, 4254626195, 2792965006, 1236535329,
  4129170786, 3225465664, 643717713, 3921069994, 3593408605, 38016083, 3634488961, 3889429448, 568446438, 3275163606, 4107603335, 1163531501, 2850285829, 4243563512, 1735328473, 2368359562,
  4294588738, 2272392833, 1839030562, 4259657740, 2763975236, 1272893353, 4139469664, 3200236656, 681279174, 3936430074, 3572445317, 76029189, 3654602809, 3873151461, 530742520, 3299628645,
  4096336452, 1126891415, 2878612391, 4237533241, 1700485571, 2399980690, 4293915773, 2240044497, 1873313359, 4264355552, 2734768916, 1309151649, 4149444226, 3174756917, 718787259, 3951481745]
def turns : List Nat := [7, 12, 17, 22, 5, 9, 14, 20, 4, 11, 16, 23, 6, 10, 15, 21]
def sine (t : Nat) : W := sines.getD t 0
def turn (t : Nat) : Nat := turns.getD (t / 16 * 4 + t % 4) 0
/-- which word of the block -/
def pick (t : Nat) : Nat := if t / 16 = 1 then (5 * t + 1) % 16 else if t / 16 = 2 then (3 * t + 5) % 16 else if t / 16 = 3 then 7 * t % 16 else t
/-- the function of the round -/
def fn (t : Nat) (b c d : W) : W :=
  if t / 16 = 1 then (b &&& d) ||| (c &&& ~~~d) else if t / 16 = 2 then b ^^^ c ^^^ d else if t / 16 = 3 then c ^^^ (b ||| ~~~d) else (b &&& c) ||| (~~~b &&& d)

/-- a state -/
structure H4 where
  a : W
  b : W
  c : W
  d : W
/-- one new word -/
def word (X : Nat → W) (t : Nat) (a b c d : W) : W := b + (a + fn t b c d + X (pick t) + sine t).rotateLeft (turn t)
/-- the words of 64 steps: Q 0 to Q 3 are a, d, c, b -/
def Q4 (X : Nat → W) (h : H4) : Nat → W × W × W × W
  | 0 => (h.a, h.d, h.c, h.b)
  | t + 1 => ((Q4 X h t).2.1, (Q4 X h t).2.2.1, (Q4 X h t).2.2.2, word X t (Q4 X h t).1 (Q4 X h t).2.2.2 (Q4 X h t).2.2.1 (Q4 X h t).2.1)
def Q (X : Nat → W) (h : H4) (t : Nat) : W := (Q4 X h t).1
theorem Q_one (X : Nat → W) (h : H4) (t : Nat) : Q X h (t + 1) = (Q4 X h t).2.1 := rfl
theorem Q_two (X : Nat → W) (h : H4) (t : Nat) : Q X h (t + 2) = (Q4 X h t).2.2.1 := rfl
theorem Q_three (X : Nat → W) (h : H4) (t : Nat) : Q X h (t + 3) = (Q4 X h t).2.2.2 := rfl
theorem Q_four (X : Nat → W) (h : H4) (t : Nat) : Q X h (t + 4) = word X t (Q X h t) (Q X h (t + 3)) (Q X h (t + 2)) (Q X h (t + 1)) := rfl
theorem Q_start (X : Nat → W) (h : H4) : Q X h 0 = h.a ∧ Q X h 1 = h.d ∧ Q X h 2 = h.c ∧ Q X h 3 = h.b := ⟨rfl, rfl, rfl, rfl⟩
attribute [irreducible] Q

/-- behind a block of sixteen words -/
def compress (h : H4) (X : Nat → W) : H4 := ⟨h.a + Q X h 64, h.b + Q X h 67, h.c + Q X h 66, h.d + Q X h 65⟩

/-- a word out of four bytes, the lowest first -/
def le (a b c d : UInt8) : W := BitVec.ofNat 32 (a.toNat + 256 * b.toNat + 65536 * c.toNat + 16777216 * d.toNat)
/-- word j of a list of bytes -/
def wordsOf (l : List UInt8) (j : Nat) : W := le (l.getD (4 * j) 0) (l.getD (4 * j + 1) 0) (l.getD (4 * j + 2) 0) (l.getD (4 * j + 3) 0)
/-- n blocks -/
def blocks : Nat → H4 → List UInt8 → H4
  | 0, h, _ => h
  | n + 1, h, l => blocks n (compress h (wordsOf l)) (l.drop 64)
def iv : H4 := ⟨1732584193, 4023233417, 2562383102, 271733878⟩

theorem blocks_add (m n : Nat) : ∀ h l, blocks (m + n) h l = blocks n (blocks m h l) (l.drop (64 * m)) := by
  induction m with
  | zero => intro h l; simp [blocks]
  | succ m ih =>
    intro h l
    rw [Nat.succ_add]
    simp only [blocks]
    rw [ih, List.drop_drop]
    congr 2
    omega
theorem wordsOf_congr {l m : List UInt8} (e : ∀ k, k < 64 → l.getD k 0 = m.getD k 0) (j : Nat) (hj : j < 16) : wordsOf l j = wordsOf m j := by
  unfold wordsOf
  rw [e _ (by omega), e _ (by omega), e _ (by omega), e _ (by omega)]
theorem pick_lt (t : Nat) (h : t < 64) : pick t < 16 := by
  unfold pick
  split
  · omega
  · split
    · omega
    · split <;> omega
theorem Q4_congr {X Y : Nat → W} (e : ∀ j, j < 16 → X j = Y j) (h : H4) : ∀ t, t ≤ 64 → Q4 X h t = Q4 Y h t
  | 0, _ => rfl
  | t + 1, ht => by
    simp only [Q4]
    rw [Q4_congr e h t (by omega)]
    unfold word
    rw [e _ (pick_lt t (by omega))]
theorem compress_congr {X Y : Nat → W} (e : ∀ j, j < 16 → X j = Y j) (h : H4) : compress h X = compress h Y := by
  unfold compress
  rw [show Q X h 64 = (Q4 X h 64).1 by unfold Q; rfl, show Q X h 65 = (Q4 X h 64).2.1 by unfold Q; rfl, show Q X h 66 = (Q4 X h 64).2.2.1 by unfold Q; rfl, show Q X h 67 = (Q4 X h 64).2.2.2 by unfold Q; rfl,
    show Q Y h 64 = (Q4 Y h 64).1 by unfold Q; rfl, show Q Y h 65 = (Q4 Y h 64).2.1 by unfold Q; rfl, show Q Y h 66 = (Q4 Y h 64).2.2.1 by unfold Q; rfl, show Q Y h 67 = (Q4 Y h 64).2.2.2 by unfold Q; rfl,
    Q4_congr e h 64 (Nat.le_refl _)]
/-- only the first 64 * n bytes count -/
theorem blocks_congr (n : Nat) : ∀ h (l m : List UInt8), (∀ k, k < 64 * n → l.getD k 0 = m.getD k 0) → blocks n h l = blocks n h m := by
  induction n with
  | zero => intro h l m _; rfl
  | succ n ih =>
    intro h l m e
    simp only [blocks]
    rw [compress_congr (fun j hj => wordsOf_congr (fun k hk => e k (by omega)) j hj) h]
    refine ih _ _ _ fun k hk => ?_
    have := e (64 + k) (by omega)
    simpa [List.getD, List.getElem?_drop] using this
theorem blocks_append (n : Nat) (h : H4) (l m : List UInt8) (e : 64 * n ≤ l.length) : blocks n h (l ++ m) = blocks n h l :=
  blocks_congr n h _ _ fun k hk => by simp [List.getD, List.getElem?_append, show k < l.length by omega]

/-- the two forms of the first two functions -/
theorem form0 (t : Nat) (ht : t / 16 = 0) (b c d : W) : ((c ^^^ d) &&& b) ^^^ d = fn t b c d := by
  unfold fn
  rw [if_neg (by omega), if_neg (by omega), if_neg (by omega)]
  apply BitVec.eq_of_getLsbD_eq
  intro i hi
  simp only [BitVec.getLsbD_xor, BitVec.getLsbD_and, BitVec.getLsbD_or, BitVec.getLsbD_not, hi, decide_true, Bool.true_and]
  cases b.getLsbD i <;> cases c.getLsbD i <;> cases d.getLsbD i <;> rfl
theorem form1 (t : Nat) (ht : t / 16 = 1) (b c d : W) : ((b ^^^ c) &&& d) ^^^ c = fn t b c d := by
  unfold fn
  rw [if_pos ht]
  apply BitVec.eq_of_getLsbD_eq
  intro i hi
  simp only [BitVec.getLsbD_xor, BitVec.getLsbD_and, BitVec.getLsbD_or, BitVec.getLsbD_not, hi, decide_true, Bool.true_and]
  cases b.getLsbD i <;> cases c.getLsbD i <;> cases d.getLsbD i <;> rfl
theorem form2 (t : Nat) (ht : t / 16 = 2) (b c d : W) : b ^^^ c ^^^ d = fn t b c d := by
  unfold fn
  rw [if_neg (by omega), if_pos ht]
theorem form3 (t : Nat) (ht : t / 16 = 3) (b c d : W) : c ^^^ (b ||| ~~~d) = fn t b c d := by
  unfold fn
  rw [if_neg (by omega), if_neg (by omega), if_pos ht]
/-- one line of the Go text -/
theorem line (X : Nat → W) (h : H4) (t : Nat) (f x k : W) (s : Nat) (hf : f = fn t (Q X h (t + 3)) (Q X h (t + 2)) (Q X h (t + 1))) (hx : X (pick t) = x) (hk : sine t = k) (hs : turn t = s) :
    Q X h (t + 3) + (f + Q X h t + x + k).rotateLeft s = Q X h (t + 4) := by
  rw [Q_four]
  unfold word
  rw [hf, hx, hk, hs, BitVec.add_comm (fn _ _ _ _)]
end Go.Proofs.YtcmopgfagooboaaDoor.Md5
