import Derived.KernelRfl
namespace Go.Proofs.Qxb6603993a

def dig (X i : Nat) : Nat := X / 10 ^ i % 10

/-- what a row of digits (not yet carried) is worth -/
def val (f : Nat → Nat) : Nat → Nat
  | 0 => 0
  | n + 1 => val f n + f n * 10 ^ n

theorem p10 (i : Nat) : 0 < 10 ^ i := Nat.pow_pos (by decide)
theorem p10s (i : Nat) : 10 ^ (i + 1) = 10 * 10 ^ i := by rw [Nat.pow_succ, Nat.mul_comm]

theorem dig_lt (X i : Nat) : dig X i < 10 := Nat.mod_lt _ (by decide)

theorem mod_step (X i : Nat) : X % 10 ^ (i + 1) = X % 10 ^ i + dig X i * 10 ^ i := by
  unfold dig
  rw [Nat.pow_succ, Nat.mod_mul, Nat.mul_comm (10 ^ i)]

theorem div_step (X i : Nat) : X / 10 ^ i = X / 10 ^ (i + 1) * 10 + dig X i := by
  unfold dig
  rw [Nat.pow_succ, ← Nat.div_div_eq_div_mul]
  omega

theorem val_congr {f g : Nat → Nat} {n : Nat} (h : ∀ k, k < n → f k = g k) : val f n = val g n := by
  induction n with
  | zero => rfl
  | succ n ih => simp only [val]; rw [ih fun k hk => h k (by omega), h n (by omega)]

theorem val_zero (n : Nat) : val (fun _ => 0) n = 0 := by
  induction n with
  | zero => rfl
  | succ n ih => simp [val, ih]

theorem val_upd (f : Nat → Nat) (k c : Nat) {n : Nat} (h : k < n) : val (fun j => if j = k then f k + c else f j) n = val f n + c * 10 ^ k := by
  induction n with
  | zero => omega
  | succ n ih =>
    simp only [val]
    by_cases e : k = n
    · subst e
      rw [val_congr (g := f) fun j hj => if_neg (by omega)]
      simp [Nat.add_mul]
      omega
    · rw [ih (by omega), if_neg (fun h => e h.symm)]
      omega

theorem val_split (f : Nat → Nat) {m n : Nat} (h : m ≤ n) : ∃ t, val f n = val f m + t * 10 ^ m := by
  induction n with
  | zero => exact ⟨0, by obtain rfl : m = 0 := by omega
                         simp⟩
  | succ n ih =>
    by_cases e : m = n + 1
    · subst e; exact ⟨0, by simp⟩
    · obtain ⟨t, ht⟩ := ih (by omega)
      obtain ⟨d, rfl⟩ := Nat.exists_eq_add_of_le (show m ≤ n by omega)
      refine ⟨t + f (m + d) * 10 ^ d, ?_⟩
      simp only [val]
      rw [ht, Nat.add_mul, Nat.mul_assoc, ← Nat.pow_add, Nat.add_comm d m, Nat.add_assoc]

theorem carry_step (f : Nat → Nat) (k : Nat) : f k + val f k / 10 ^ k = val f (k + 1) / 10 ^ k := by
  simp only [val]
  rw [Nat.add_mul_div_right _ _ (p10 k), Nat.add_comm]

theorem carry_next (f : Nat → Nat) (k : Nat) : val f (k + 1) / 10 ^ k / 10 = val f (k + 1) / 10 ^ (k + 1) := by
  rw [Nat.div_div_eq_div_mul, Nat.pow_succ]

theorem dig_val (f : Nat → Nat) {k n : Nat} (h : k < n) : val f (k + 1) / 10 ^ k % 10 = dig (val f n) k := by
  obtain ⟨t, ht⟩ := val_split f (show k + 1 ≤ n by omega)
  unfold dig
  rw [ht, Nat.pow_succ, Nat.mul_comm (10 ^ k) 10, ← Nat.mul_assoc, Nat.add_mul_div_right _ _ (p10 k)]
  omega

theorem val_le (f : Nat → Nat) (M n : Nat) (h : ∀ k, k < n → f k ≤ M) : val f n ≤ M * 10 ^ n := by
  induction n with
  | zero => simp [val]
  | succ n ih =>
    have h1 := ih fun k hk => h k (by omega)
    have h2 := Nat.mul_le_mul_right (10 ^ n) (h n (by omega))
    simp only [val]
    rw [p10s, ← Nat.mul_assoc, Nat.mul_comm M 10, Nat.mul_assoc]
    omega

theorem carry_le (f : Nat → Nat) (M n : Nat) (h : ∀ k, k < n → f k ≤ M) : val f n / 10 ^ n ≤ M := by
  rw [Nat.div_le_iff_le_mul_add_pred (p10 n)]
  have := val_le f M n h
  rw [Nat.mul_comm]
  omega

/-- one cell of the product -/
theorem prod_step (X Y i j : Nat) : X % 10 ^ i * Y + dig X i * 10 ^ i * (Y % 10 ^ j) + dig X i * dig Y j * 10 ^ (i + j) = X % 10 ^ i * Y + dig X i * 10 ^ i * (Y % 10 ^ (j + 1)) := by
  rw [mod_step Y j, Nat.mul_add, ← Nat.add_assoc, Nat.pow_add]
  congr 1
  simp only [Nat.mul_assoc]
  congr 1
  rw [← Nat.mul_assoc (dig Y j), Nat.mul_comm (dig Y j) (10 ^ i), Nat.mul_assoc]

theorem prod_row (X Y i : Nat) (hY : Y < 10 ^ 36) : X % 10 ^ i * Y + dig X i * 10 ^ i * (Y % 10 ^ 36) = X % 10 ^ (i + 1) * Y := by
  rw [Nat.mod_eq_of_lt hY, mod_step, Nat.add_mul]

theorem dig_high (h l i : Nat) (hl : l < 10 ^ 18) (hi : 18 ≤ i) : dig (h * 10 ^ 18 + l) i = dig h (i - 18) := by
  obtain ⟨d, rfl⟩ := Nat.exists_eq_add_of_le hi
  unfold dig
  rw [Nat.pow_add, ← Nat.div_div_eq_div_mul]
  have : (h * 10 ^ 18 + l) / 10 ^ 18 = h := by omega
  rw [this, Nat.add_sub_cancel_left]

theorem dig_low (h l i : Nat) (hi : i < 18) : dig (h * 10 ^ 18 + l) i = dig l i := by
  obtain ⟨d, hd⟩ := Nat.exists_eq_add_of_le (show i + 1 ≤ 18 by omega)
  unfold dig
  rw [hd, Nat.pow_add, Nat.pow_succ]
  have : h * (10 ^ i * 10 * 10 ^ d) + l = l + 10 ^ i * (10 * (h * 10 ^ d)) := by
    rw [Nat.add_comm]
    congr 1
    rw [Nat.mul_assoc (10 ^ i), ← Nat.mul_assoc, Nat.mul_comm h, Nat.mul_assoc]
    congr 1
    rw [← Nat.mul_assoc, Nat.mul_comm h 10, Nat.mul_assoc]
  rw [this, Nat.add_mul_div_left _ _ (p10 i)]
  omega

theorem dig_shift (P s i : Nat) : dig P (s + i) = dig (P / 10 ^ s) i := by
  unfold dig
  rw [Nat.pow_add, Nat.div_div_eq_div_mul]

/-- one more: nines below i, no nine at i -/
theorem inc_dig (Q i j : Nat) (h9 : Q % 10 ^ i = 10 ^ i - 1) (hi : dig Q i ≠ 9) : dig (Q + 1) j = if j < i then 0 else if j = i then dig Q i + 1 else dig Q j := by
  have hp := p10 i
  have hq : Q + 1 = 10 ^ i * (Q / 10 ^ i + 1) := by
    have := Nat.div_add_mod Q (10 ^ i)
    rw [Nat.mul_add]
    omega
  by_cases h1 : j < i
  · rw [if_pos h1, hq]
    obtain ⟨d, rfl⟩ := Nat.exists_eq_add_of_le (show j + 1 ≤ i by omega)
    unfold dig
    rw [Nat.pow_add, Nat.pow_succ, Nat.mul_assoc, Nat.mul_assoc, Nat.mul_div_cancel_left _ (p10 j)]
    omega
  · obtain ⟨d, rfl⟩ := Nat.exists_eq_add_of_le (show i ≤ j by omega)
    have e1 : dig (Q + 1) (i + d) = dig (Q / 10 ^ i + 1) d := by
      rw [dig_shift, hq, Nat.mul_div_cancel_left _ hp]
    have e2 : dig Q (i + d) = dig (Q / 10 ^ i) d := dig_shift _ _ _
    have e3 : dig Q i = dig (Q / 10 ^ i) 0 := by simp [dig]
    rw [if_neg h1, e1, e2, e3]
    rw [e3] at hi
    generalize Q / 10 ^ i = R at hi
    by_cases h2 : d = 0
    · subst h2
      simp [dig] at hi ⊢
      omega
    · rw [if_neg (by omega)]
      obtain ⟨c, rfl⟩ : ∃ c, d = 1 + c := ⟨d - 1, by omega⟩
      rw [dig_shift, dig_shift]
      congr 1
      simp [dig] at hi ⊢
      omega

theorem nines_step (Q i : Nat) (h9 : Q % 10 ^ i = 10 ^ i - 1) (hi : dig Q i = 9) : Q % 10 ^ (i + 1) = 10 ^ (i + 1) - 1 := by
  have := p10 i
  rw [mod_step, h9, hi, p10s]
  omega

/-- the rounded coefficient and the exponent -/
def rnd (Q : Nat) (up : Bool) (e : Int) (wrap : Int → Int) : Nat × Int :=
  if up then (if Q + 1 = 10 ^ 36 then (10 ^ 35, wrap (e + 1)) else (Q + 1, e)) else (Q, e)

theorem add4 (a b c d : Nat) : a + b + c + d = a + (b + c + d) := by omega

/-- the product in limbs of nine digits -/
theorem limbs (a0 a1 a2 a3 b0 b1 b2 b3 P : Nat)
    (hP : P = (a0 * 10 ^ 27 + a1 * 10 ^ 18 + a2 * 10 ^ 9 + a3) * (b0 * 10 ^ 27 + b1 * 10 ^ 18 + b2 * 10 ^ 9 + b3))
    (c6 c5 c4 c3 c2 c1 c0 : Nat) (h6 : c6 = a3 * b3) (h5 : c5 = a2 * b3 + a3 * b2 + c6 / 10 ^ 9) (h4 : c4 = a1 * b3 + a2 * b2 + a3 * b1 + c5 / 10 ^ 9)
    (h3 : c3 = a0 * b3 + a1 * b2 + a2 * b1 + a3 * b0 + c4 / 10 ^ 9) (h2 : c2 = a0 * b2 + a1 * b1 + a2 * b0 + c3 / 10 ^ 9)
    (h1 : c1 = a0 * b1 + a1 * b0 + c2 / 10 ^ 9) (h0 : c0 = a0 * b0 + c1 / 10 ^ 9) :
    ∃ q, q = P / 10 ^ 27 ∧ c3 % 10 ^ 9 = q % 10 ^ 9 ∧ c2 % 10 ^ 9 = q / 10 ^ 9 % 10 ^ 9 ∧ c1 % 10 ^ 9 = q / 10 ^ 18 % 10 ^ 9 ∧ c0 = q / 10 ^ 27 := by
  have hE : P = a0 * b0 * 10 ^ 54 + (a0 * b1 + a1 * b0) * 10 ^ 45 + (a0 * b2 + a1 * b1 + a2 * b0) * 10 ^ 36 + (a0 * b3 + a1 * b2 + a2 * b1 + a3 * b0) * 10 ^ 27 + (a1 * b3 + a2 * b2 + a3 * b1) * 10 ^ 18 + (a2 * b3 + a3 * b2) * 10 ^ 9 + a3 * b3 := by
    rw [hP]
    have key : ∀ (a b s t : Nat), a * s * (b * t) = a * b * (s * t) := fun a b s t => Nat.mul_mul_mul_comm a s b t
    have kl : ∀ (a b t : Nat), a * (b * t) = a * b * t := fun a b t => (Nat.mul_assoc a b t).symm
    have kr : ∀ (a b s : Nat), a * s * b = a * b * s := fun a b s => Nat.mul_right_comm a s b
    simp only [Nat.add_mul, Nat.mul_add, key]
    simp only [kl _ _ (10 ^ 27), kl _ _ (10 ^ 18), kl _ _ (10 ^ 9), kr]
    generalize a0 * b0 = p00
    generalize a0 * b1 = p01
    generalize a0 * b2 = p02
    generalize a0 * b3 = p03
    generalize a1 * b0 = p10
    generalize a1 * b1 = p11
    generalize a1 * b2 = p12
    generalize a1 * b3 = p13
    generalize a2 * b0 = p20
    generalize a2 * b1 = p21
    generalize a2 * b2 = p22
    generalize a2 * b3 = p23
    generalize a3 * b0 = p30
    generalize a3 * b1 = p31
    generalize a3 * b2 = p32
    generalize a3 * b3 = p33
    omega
  clear hP
  refine ⟨_, rfl, ?_⟩
  generalize a0 * b0 = s0 at *
  generalize a0 * b1 + a1 * b0 = s1 at *
  generalize a0 * b2 + a1 * b1 + a2 * b0 = s2 at *
  generalize a0 * b3 + a1 * b2 + a2 * b1 + a3 * b0 = s3 at *
  generalize a1 * b3 + a2 * b2 + a3 * b1 = s4 at *
  generalize a2 * b3 + a3 * b2 = s5 at *
  generalize a3 * b3 = s6 at *
  have q1 : P / 10 ^ 9 = c5 + (s0 * 10 ^ 45 + s1 * 10 ^ 36 + s2 * 10 ^ 27 + s3 * 10 ^ 18 + s4 * 10 ^ 9) := by omega
  have q2 : P / 10 ^ 18 = c4 + (s0 * 10 ^ 36 + s1 * 10 ^ 27 + s2 * 10 ^ 18 + s3 * 10 ^ 9) := by
    have : P / 10 ^ 18 = P / 10 ^ 9 / 10 ^ 9 := by rw [Nat.div_div_eq_div_mul]
    rw [this, q1]; omega
  have q3 : P / 10 ^ 27 = c3 + (s0 * 10 ^ 27 + s1 * 10 ^ 18 + s2 * 10 ^ 9) := by
    have : P / 10 ^ 27 = P / 10 ^ 18 / 10 ^ 9 := by rw [Nat.div_div_eq_div_mul]
    rw [this, q2]; omega
  rw [q3]
  clear q1 q2 q3 hE
  have r1 : (c3 + (s0 * 10 ^ 27 + s1 * 10 ^ 18 + s2 * 10 ^ 9)) / 10 ^ 9 = c2 + (s0 * 10 ^ 18 + s1 * 10 ^ 9) := by omega
  have r2 : (c3 + (s0 * 10 ^ 27 + s1 * 10 ^ 18 + s2 * 10 ^ 9)) / 10 ^ 18 = c1 + s0 * 10 ^ 9 := by
    have : ∀ x : Nat, x / 10 ^ 18 = x / 10 ^ 9 / 10 ^ 9 := fun x => by rw [Nat.div_div_eq_div_mul]
    rw [this, r1]; omega
  have r3 : (c3 + (s0 * 10 ^ 27 + s1 * 10 ^ 18 + s2 * 10 ^ 9)) / 10 ^ 27 = c0 := by
    have : ∀ x : Nat, x / 10 ^ 27 = x / 10 ^ 18 / 10 ^ 9 := fun x => by rw [Nat.div_div_eq_div_mul]
    rw [this, r2]; omega
  rw [r1, r2, r3]
  omega
end Go.Proofs.Qxb6603993a
