/-
  THE PLAIN LAW of mayHoldControl, no Go in sight: the eight-byte test marks a word just if one of its bytes is a control byte.
-/
namespace Go.Proofs.Qxb6602430a.Plain

theorem split_testBit (q r : Nat) (hr : r < 256) (i : Nat) : (256 * q + r).testBit i = if i < 8 then r.testBit i else q.testBit (i - 8) := by
  have := Nat.testBit_two_pow_mul_add (i := 8) q hr i
  simpa using this

theorem and_split (q r q' r' : Nat) (hr : r < 256) (hr' : r' < 256) : (256 * q + r) &&& (256 * q' + r') = 256 * (q &&& q') + (r &&& r') := by
  apply Nat.eq_of_testBit_eq
  intro i
  have h : r &&& r' < 256 := Nat.and_lt_two_pow (n := 8) r hr'
  rw [Nat.testBit_and, split_testBit _ _ hr, split_testBit _ _ hr', split_testBit _ _ h]
  split <;> simp

theorem or_split (q r q' r' : Nat) (hr : r < 256) (hr' : r' < 256) : (256 * q + r) ||| (256 * q' + r') = 256 * (q ||| q') + (r ||| r') := by
  apply Nat.eq_of_testBit_eq
  intro i
  have h : r ||| r' < 256 := Nat.or_lt_two_pow (n := 8) hr hr'
  rw [Nat.testBit_or, split_testBit _ _ hr, split_testBit _ _ hr', split_testBit _ _ h]
  split <;> simp

theorem xor_split (q r q' r' : Nat) (hr : r < 256) (hr' : r' < 256) : (256 * q + r) ^^^ (256 * q' + r') = 256 * (q ^^^ q') + (r ^^^ r') := by
  apply Nat.eq_of_testBit_eq
  intro i
  have h : r ^^^ r' < 256 := Nat.xor_lt_two_pow (n := 8) hr hr'
  rw [Nat.testBit_xor, split_testBit _ _ hr, split_testBit _ _ hr', split_testBit _ _ h]
  split <;> simp

theorem mod_split (a b M : Nat) (hb : b < 256) : (256 * a + b) % (256 * M) = 256 * (a % M) + b := by
  rw [Nat.mod_mul]
  have h1 : (256 * a + b) % 256 = b := by omega
  have h2 : (256 * a + b) / 256 = a := by omega
  rw [h1, h2]; omega

/-- one word of k bytes: 'O' the ones, 'M' the modulus -/
def G (O M w : Nat) : Nat :=
  (((w + M - 32 * O) % M &&& (M - 1 - w)) ||| (((w ^^^ 127 * O) + M - O) % M &&& (M - 1 - (w ^^^ 127 * O)))) &&& (128 * O)

def isCtl (r : Nat) : Bool := decide (r < 32) || r == 127

/-- the least byte holds no control byte: it adds nothing -/
theorem byte_no : ∀ r : Fin 256, isCtl r.val = false → 32 ≤ r.val ∧ 1 ≤ (r.val ^^^ 127) ∧ (r.val ^^^ 127) < 256 ∧
    ((((r.val - 32) &&& (255 - r.val)) ||| (((r.val ^^^ 127) - 1) &&& (255 - (r.val ^^^ 127)))) &&& 128) = 0 := by decide +kernel

theorem byte_yes : ∀ r : Fin 256, isCtl r.val = true →
    (((((r.val + 224) % 256) &&& (255 - r.val)) ||| ((((r.val ^^^ 127) + 255) % 256) &&& (255 - (r.val ^^^ 127)))) &&& 128) ≠ 0 := by decide +kernel

def ones : Nat → Nat
  | 0 => 0
  | k + 1 => 256 * ones k + 1

theorem ones_eq (k : Nat) : 255 * ones k + 1 = 256 ^ k := by
  induction k with
  | zero => rfl
  | succ k ih => simp only [ones, Nat.pow_succ]; omega

theorem xor_bound (k q : Nat) (hq : q < 256 ^ k) : q ^^^ 127 * ones k < 256 ^ k := by
  have h1 := ones_eq k
  have e : (256 : Nat) ^ k = 2 ^ (8 * k) := by rw [Nat.pow_mul]
  rw [e] at hq h1 ⊢
  exact Nat.xor_lt_two_pow hq (by omega)

theorem G_no (k q r : Nat) (hq : q < 256 ^ k) (hr : r < 256) (hc : isCtl r = false) : G (ones (k + 1)) (256 ^ (k + 1)) (256 * q + r) = 256 * G (ones k) (256 ^ k) q := by
  obtain ⟨h1, h2, h3, h4⟩ := byte_no ⟨r, hr⟩ hc
  simp only at h1 h2 h3 h4
  have hx := xor_bound k q hq
  have hO := ones_eq k
  have eM : (256 : Nat) ^ (k + 1) = 256 * 256 ^ k := by rw [Nat.pow_succ]; omega
  rw [eM]
  simp only [ones]
  generalize (256 : Nat) ^ k = M at *
  generalize ones k = O at *
  unfold G
  have e0 : 127 * (256 * O + 1) = 256 * (127 * O) + 127 := by omega
  have e1 : 128 * (256 * O + 1) = 256 * (128 * O) + 128 := by omega
  rw [e0, e1, xor_split q r (127 * O) 127 hr (by omega)]
  generalize q ^^^ 127 * O = y at *
  generalize r ^^^ 127 = z at *
  have e2 : 256 * q + r + 256 * M - 32 * (256 * O + 1) = 256 * (q + M - 32 * O) + (r - 32) := by omega
  have e3 : 256 * y + z + 256 * M - (256 * O + 1) = 256 * (y + M - O) + (z - 1) := by omega
  have e4 : 256 * M - 1 - (256 * q + r) = 256 * (M - 1 - q) + (255 - r) := by omega
  have e5 : 256 * M - 1 - (256 * y + z) = 256 * (M - 1 - y) + (255 - z) := by omega
  rw [e2, e3, e4, e5, mod_split _ _ _ (by omega), mod_split _ _ _ (by omega), and_split _ _ _ _ (by omega) (by omega), and_split _ _ _ _ (by omega) (by omega)]
  have b1 : (r - 32) &&& (255 - r) < 256 := Nat.and_lt_two_pow (n := 8) _ (by omega)
  have b2 : (z - 1) &&& (255 - z) < 256 := Nat.and_lt_two_pow (n := 8) _ (by omega)
  rw [or_split _ _ _ _ b1 b2, and_split _ _ _ _ (Nat.or_lt_two_pow (n := 8) b1 b2) (by omega), h4, Nat.add_zero]

theorem G_yes (k q r : Nat) (hq : q < 256 ^ k) (hr : r < 256) (hc : isCtl r = true) : G (ones (k + 1)) (256 ^ (k + 1)) (256 * q + r) ≠ 0 := by
  have h4 := byte_yes ⟨r, hr⟩ hc
  simp only at h4
  have hx := xor_bound k q hq
  have hO := ones_eq k
  have eM : (256 : Nat) ^ (k + 1) = 256 * 256 ^ k := by rw [Nat.pow_succ]; omega
  rw [eM]
  simp only [ones]
  generalize (256 : Nat) ^ k = M at *
  generalize ones k = O at *
  unfold G
  have e0 : 127 * (256 * O + 1) = 256 * (127 * O) + 127 := by omega
  have e1 : 128 * (256 * O + 1) = 256 * (128 * O) + 128 := by omega
  rw [e0, e1, xor_split q r (127 * O) 127 hr (by omega)]
  have hz : r ^^^ 127 < 256 := Nat.xor_lt_two_pow (n := 8) hr (by omega)
  generalize q ^^^ 127 * O = y at *
  generalize r ^^^ 127 = z at *
  have low : ∀ a, a % (256 * M) = 256 * (a / 256 % M) + a % 256 := by intro a; rw [Nat.mod_mul]; omega
  have e4 : 256 * M - 1 - (256 * q + r) = 256 * (M - 1 - q) + (255 - r) := by omega
  have e5 : 256 * M - 1 - (256 * y + z) = 256 * (M - 1 - y) + (255 - z) := by omega
  have e2 : (256 * q + r + 256 * M - 32 * (256 * O + 1)) % 256 = (r + 224) % 256 := by omega
  have e3 : (256 * y + z + 256 * M - (256 * O + 1)) % 256 = (z + 255) % 256 := by omega
  rw [low, low (256 * y + z + 256 * M - (256 * O + 1)), e2, e3, e4, e5, and_split _ _ _ _ (by omega) (by omega), and_split _ _ _ _ (by omega) (by omega)]
  have b1 : (r + 224) % 256 &&& (255 - r) < 256 := Nat.and_lt_two_pow (n := 8) _ (by omega)
  have b2 : (z + 255) % 256 &&& (255 - z) < 256 := Nat.and_lt_two_pow (n := 8) _ (by omega)
  rw [or_split _ _ _ _ b1 b2, and_split _ _ _ _ (Nat.or_lt_two_pow (n := 8) b1 b2) (by omega)]
  omega

/-- the number that a list of bytes writes, the first byte lowest -/
def num : List Nat → Nat
  | [] => 0
  | r :: l => 256 * num l + r

theorem num_lt (l : List Nat) (h : ∀ r ∈ l, r < 256) : num l < 256 ^ l.length := by
  induction l with
  | nil => simp [num]
  | cons r l ih =>
    have h1 := ih fun x hx => h x (List.mem_cons_of_mem _ hx)
    have h2 := h r List.mem_cons_self
    simp only [num, List.length_cons, Nat.pow_succ]; omega

theorem G_num (l : List Nat) (h : ∀ r ∈ l, r < 256) : (G (ones l.length) (256 ^ l.length) (num l) != 0) = l.any isCtl := by
  induction l with
  | nil => rfl
  | cons r l ih =>
    have h1 : ∀ x ∈ l, x < 256 := fun x hx => h x (List.mem_cons_of_mem _ hx)
    have h2 := h r List.mem_cons_self
    simp only [num, List.length_cons, List.any_cons]
    cases hc : isCtl r with
    | true => simpa using G_yes _ _ _ (num_lt l h1) h2 hc
    | false =>
      rw [G_no _ _ _ (num_lt l h1) h2 hc, Bool.false_or, ← ih h1]
      generalize G _ _ _ = g
      rw [Bool.eq_iff_iff]; simp; omega
end Go.Proofs.Qxb6602430a.Plain
