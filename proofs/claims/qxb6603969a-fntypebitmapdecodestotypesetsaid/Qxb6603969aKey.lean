/-
  PLAIN LAWS OF DNS NAMES' KEYS: no Go in sight.
-/
namespace Go.Proofs.Qxb6603969a
set_option linter.unusedVariables false

def low (c : Nat) : Nat := if 65 ≤ c ∧ c ≤ 90 then c + 32 else c
def encB (c : Nat) : List Nat := if c = 0 then [0, 255] else [low c]
def encL (l : List Nat) : List Nat := l.flatMap encB ++ [0, 1]
def key (rs : List (List Nat)) : List Nat := rs.flatMap encL

def cmpL : List Nat → List Nat → Int
  | [], [] => 0
  | [], _ :: _ => -1
  | _ :: _, [] => 1
  | a :: as, b :: bs => if a < b then -1 else if b < a then 1 else cmpL as bs

def labcmp (a b : List Nat) : Int := cmpL (a.map low) (b.map low)

def cmpN : List (List Nat) → List (List Nat) → Int
  | [], [] => 0
  | [], _ :: _ => -1
  | _ :: _, [] => 1
  | a :: as, b :: bs => if labcmp a b ≠ 0 then labcmp a b else cmpN as bs

theorem low_pos {c : Nat} (h : c ≠ 0) : 0 < low c := by unfold low; split <;> omega
theorem low_zero : low 0 = 0 := by simp [low]

theorem enc_cmp (k1 k2 : List Nat) : ∀ a b : List Nat, cmpL (a.flatMap encB ++ 0 :: 1 :: k1) (b.flatMap encB ++ 0 :: 1 :: k2) = if labcmp a b ≠ 0 then labcmp a b else cmpL k1 k2
  | [], [] => by simp [labcmp, cmpL]
  | [], y :: b => by
    have e : labcmp [] (y :: b) = -1 := rfl
    rw [e, if_pos (by decide)]
    by_cases hy : y = 0
    · subst hy; simp [encB, cmpL]
    · simp [encB, hy, cmpL, low_pos hy]
  | x :: a, [] => by
    have e : labcmp (x :: a) [] = 1 := rfl
    rw [e, if_pos (by decide)]
    by_cases hx : x = 0
    · subst hx; simp [encB, cmpL]
    · have h1 := low_pos hx
      have h3 : encB x = [low x] := by simp [encB, hx]
      rw [List.flatMap_cons, h3]
      show (if low x < 0 then (-1 : Int) else if 0 < low x then 1 else _) = 1
      rw [if_neg (Nat.not_lt_zero _), if_pos h1]
  | x :: a, y :: b => by
    have ih := enc_cmp k1 k2 a b
    have e : labcmp (x :: a) (y :: b) = if low x < low y then -1 else if low y < low x then 1 else labcmp a b := rfl
    by_cases hx : x = 0
    · by_cases hy : y = 0
      · subst hx; subst hy
        have e2 : labcmp (0 :: a) (0 :: b) = labcmp a b := by rw [e, if_neg (Nat.lt_irrefl _), if_neg (Nat.lt_irrefl _)]
        rw [e2, ← ih]
        simp [encB, cmpL]
      · subst hx
        have h1 := low_pos hy
        have e2 : labcmp (0 :: a) (y :: b) = -1 := by rw [e, if_pos (by rw [low_zero]; exact h1)]
        rw [e2, if_pos (by decide)]
        simp [encB, hy, cmpL, h1]
    · have h1 := low_pos hx
      by_cases hy : y = 0
      · subst hy
        have e2 : labcmp (x :: a) (0 :: b) = 1 := by rw [e, low_zero, if_neg (Nat.not_lt_zero _), if_pos h1]
        rw [e2, if_pos (by decide)]
        have h3 : encB x = [low x] := by simp [encB, hx]
        have h4 : encB 0 = [0, 255] := by simp [encB]
        rw [List.flatMap_cons, List.flatMap_cons, h3, h4]
        show (if low x < 0 then (-1 : Int) else if 0 < low x then 1 else _) = 1
        rw [if_neg (Nat.not_lt_zero _), if_pos h1]
      · have h3 : encB x = [low x] := by simp [encB, hx]
        have h4 : encB y = [low y] := by simp [encB, hy]
        rw [List.flatMap_cons, List.flatMap_cons, h3, h4]
        show (if low x < low y then (-1 : Int) else if low y < low x then 1 else cmpL (a.flatMap encB ++ 0 :: 1 :: k1) (b.flatMap encB ++ 0 :: 1 :: k2)) = _
        by_cases h5 : low x < low y
        · have e2 : labcmp (x :: a) (y :: b) = -1 := by rw [e, if_pos h5]
          rw [e2, if_pos h5, if_pos (by decide)]
        · by_cases h6 : low y < low x
          · have e2 : labcmp (x :: a) (y :: b) = 1 := by rw [e, if_neg h5, if_pos h6]
            rw [e2, if_neg h5, if_pos h6, if_pos (by decide)]
          · have e2 : labcmp (x :: a) (y :: b) = labcmp a b := by rw [e, if_neg h5, if_neg h6]
            rw [e2, if_neg h5, if_neg h6]
            exact ih

/-- THE PLAIN LAW -/
theorem key_cmp : ∀ r1 r2 : List (List Nat), cmpL (key r1) (key r2) = cmpN r1 r2
  | [], [] => rfl
  | [], b :: bs => by
    show cmpL [] (encL b ++ key bs) = -1
    unfold encL
    cases h : (b.flatMap encB ++ [0, 1] ++ key bs) with
    | nil => simp at h
    | cons _ _ => rfl
  | a :: as, [] => by
    show cmpL (encL a ++ key as) [] = 1
    unfold encL
    cases h : (a.flatMap encB ++ [0, 1] ++ key as) with
    | nil => simp at h
    | cons _ _ => rfl
  | a :: as, b :: bs => by
    have h := enc_cmp (key as) (key bs) a b
    rw [key_cmp as bs] at h
    have e1 : key (a :: as) = a.flatMap encB ++ 0 :: 1 :: key as := by simp [key, encL]
    have e2 : key (b :: bs) = b.flatMap encB ++ 0 :: 1 :: key bs := by simp [key, encL]
    rw [e1, e2, h]
    rfl

/-! ### where the labels of a wire form lie -/

/-- the offset of the j-th length octet -/
def off (f : Nat → Nat) : Nat → Nat
  | 0 => 0
  | j + 1 => off f j + (1 + f (off f j))

/-- the octets of the j-th label -/
def lab (f : Nat → Nat) (j : Nat) : List Nat := (List.range (f (off f j))).map fun i => f (off f j + 1 + i)

/-- the labels from the right, t of them, out of m -/
def labsR (f : Nat → Nat) (m t : Nat) : List (List Nat) := (List.range t).map fun i => lab f (m - 1 - i)

theorem labsR_succ (f : Nat → Nat) (m t : Nat) : labsR f m (t + 1) = labsR f m t ++ [lab f (m - 1 - t)] := by
  simp [labsR, List.range_succ]

theorem key_append (a b : List (List Nat)) : key (a ++ b) = key a ++ key b := by simp [key]

theorem key_succ (f : Nat → Nat) (m t : Nat) : key (labsR f m (t + 1)) = key (labsR f m t) ++ encL (lab f (m - 1 - t)) := by
  rw [labsR_succ, key_append]
  simp [key]

theorem encB_len (c : Nat) : (encB c).length ≤ 2 := by unfold encB; split <;> simp

theorem flat_len (l : List Nat) : (l.flatMap encB).length ≤ 2 * l.length := by
  induction l with
  | nil => simp
  | cons a l ih =>
    have := encB_len a
    rw [List.flatMap_cons, List.length_append, List.length_cons]
    omega

theorem key_len (f : Nat → Nat) (m t : Nat) (h : t ≤ m) : (key (labsR f m t)).length + 2 * off f (m - t) ≤ 2 * off f m := by
  induction t with
  | zero => simp [labsR, key]
  | succ t ih =>
    have h1 := ih (by omega)
    rw [key_succ, List.length_append]
    have h2 := flat_len (lab f (m - 1 - t))
    have h3 : (lab f (m - 1 - t)).length = f (off f (m - 1 - t)) := by simp [lab]
    have h4 : off f (m - t) = off f (m - 1 - t) + (1 + f (off f (m - 1 - t))) := by
      rw [show m - t = (m - 1 - t) + 1 by omega]; rfl
    have h5 : (encL (lab f (m - 1 - t))).length = ((lab f (m - 1 - t)).flatMap encB).length + 2 := by simp [encL]
    rw [show m - (t + 1) = m - 1 - t by omega]
    omega

structure Valid (f : Nat → Nat) (n m : Nat) : Prop where
  small : n ≤ 255
  lens : ∀ j, j < m → f (off f j) ≠ 0
  fin : off f m + 1 = n
  zero : f (off f m) = 0

theorem off_mono (f : Nat → Nat) : ∀ {i j : Nat}, i ≤ j → off f i + (j - i) ≤ off f j := by
  intro i j h
  induction j with
  | zero => obtain rfl : i = 0 := by omega
            simp
  | succ j ih =>
    by_cases e : i = j + 1
    · subst e; simp
    · have := ih (by omega)
      simp only [off]
      omega

theorem Valid.two {f : Nat → Nat} {n m : Nat} (h : Valid f n m) : ∀ j, j ≤ m → 2 * j ≤ off f j := by
  intro j
  induction j with
  | zero => intro _; simp
  | succ j ih =>
    intro hj
    have := ih (by omega)
    have := h.lens j (by omega)
    simp only [off]
    omega

theorem Valid.lt {f : Nat → Nat} {n m : Nat} (h : Valid f n m) {j : Nat} (hj : j < m) : off f j + 1 + f (off f j) < n := by
  have h1 := off_mono f (show j + 1 ≤ m by omega)
  have h2 := h.fin
  simp only [off] at h1
  omega

theorem Valid.m_le {f : Nat → Nat} {n m : Nat} (h : Valid f n m) : m ≤ 127 := by
  have := h.two m (Nat.le_refl _)
  have := h.fin
  have := h.small
  omega

/-- the walk over the length octets stops at the same place -/
theorem Valid.stop {f : Nat → Nat} {n m : Nat} (h : Valid f n m) {j : Nat} (hj : j ≤ m) (hz : f (off f j) = 0) : j = m := by
  by_cases e : j = m
  · exact e
  · exact absurd hz (h.lens j (by omega))
end Go.Proofs.Qxb6603969a
