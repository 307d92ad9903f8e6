namespace Go.Proofs.Qxb6602963a
set_option linter.unusedVariables false

/-- a is b or above b in the tree that par spans -/
inductive Anc (par : Nat → Nat) (a : Nat) : Nat → Prop
  | refl : Anc par a a
  | up {b : Nat} : 0 < b → Anc par a (par b) → Anc par a b

/-- a tree of depth-first numbers 0 .. m-1 over the edges E -/
structure Tree (m : Nat) (par : Nat → Nat) (E : Nat → Nat → Prop) : Prop where
  dom : ∀ i j, E i j → i < m ∧ j < m
  lt : ∀ j, 0 < j → j < m → par j < j
  edge : ∀ j, 0 < j → j < m → E (par j) j
  fwd : ∀ i j, E i j → i < j → Anc par i j
  ival : ∀ u z z', Anc par u z' → z' < m → u ≤ z → z ≤ z' → Anc par u z

/-- reached from 0 never entering a -/
inductive RA (E : Nat → Nat → Prop) (a : Nat) : Nat → Prop
  | zero : a ≠ 0 → RA E a 0
  | step {u v : Nat} : RA E a u → E u v → v ≠ a → RA E a v

structure Semi (m : Nat) (par : Nat → Nat) (E : Nat → Nat → Prop) (s : Nat → Nat) : Prop where
  low : ∀ v i, 0 < i → E v i → v < i → s i ≤ v
  high : ∀ v i u, 0 < i → E v i → i < v → Anc par u v → i < u → s i ≤ s u
  att : ∀ i, 0 < i → i < m → (∃ v, E v i ∧ v < i ∧ s i = v) ∨ ∃ v u, E v i ∧ i < v ∧ Anc par u v ∧ i < u ∧ s i = s u

section
variable {m : Nat} {par : Nat → Nat} {E : Nat → Nat → Prop} {s : Nat → Nat}

theorem Anc.trans {a b c : Nat} (h : Anc par a b) (k : Anc par b c) : Anc par a c := by
  induction k with
  | refl => exact h
  | up h0 _ ih => exact .up h0 ih

theorem Anc.le (T : Tree m par E) {a b : Nat} (h : Anc par a b) (hb : b < m) : a ≤ b := by
  induction h with
  | refl => exact Nat.le_refl _
  | up h0 _ ih => have := T.lt _ h0 hb; have := ih (by omega); omega

theorem Anc.par_of_ne {a b : Nat} (h : Anc par a b) (hne : a ≠ b) : 0 < b ∧ Anc par a (par b) := by
  cases h with
  | refl => exact absurd rfl hne
  | up h0 h1 => exact ⟨h0, h1⟩

theorem anc_zero (T : Tree m par E) : ∀ b, b < m → Anc par 0 b := by
  intro b
  induction b using Nat.strongRecOn with
  | ind b ih =>
    intro hb
    rcases Nat.eq_zero_or_pos b with h | h
    · subst h; exact .refl
    · have := T.lt b h hb
      exact .up h (ih _ this (by omega))

/-- two above one: the lower number is above the other -/
theorem Anc.total (T : Tree m par E) {x y w : Nat} (hw : w < m) (hx : Anc par x w) (hy : Anc par y w) (hxy : x ≤ y) : Anc par x y := by
  induction hy with
  | refl => exact hx
  | up h0 h1 ih =>
    rename_i b
    have hb := T.lt b h0 hw
    by_cases e : x = b
    · subst e
      have := h1.le T (by omega)
      omega
    · exact ih (by omega) (hx.par_of_ne e).2

theorem tree_reach (T : Tree m par E) {a : Nat} : ∀ w, w < m → ¬ Anc par a w → RA E a w := by
  intro w
  induction w using Nat.strongRecOn with
  | ind w ih =>
    intro hw hn
    rcases Nat.eq_zero_or_pos w with h | h
    · subst h
      exact .zero fun e => hn (e ▸ .refl)
    · have hlt := T.lt w h hw
      exact .step (ih _ hlt (by omega) fun k => hn (.up h k)) (T.edge w h hw) fun e => hn (e ▸ .refl)

theorem reach_down (T : Tree m par E) {a u w : Nat} (h : RA E a u) (ha : a < u) (k : Anc par u w) (hw : w < m) : RA E a w := by
  induction k with
  | refl => exact h
  | up h0 h1 ih =>
    have hlt := T.lt _ h0 hw
    have := h1.le T (by omega)
    exact .step (ih (by omega)) (T.edge _ h0 hw) (by omega)

theorem RA.ne {a z : Nat} (h : RA E a z) : z ≠ a := by
  cases h with
  | zero h => exact Ne.symm h
  | step _ _ h => exact h

theorem RA.lt (T : Tree m par E) (hm : 0 < m) {a z : Nat} (h : RA E a z) : z < m := by
  cases h with
  | zero h => exact hm
  | step _ h _ => exact (T.dom _ _ h).2

theorem semi_lt (T : Tree m par E) (S : Semi m par E s) {i : Nat} (h : 0 < i) (hi : i < m) : s i ≤ par i ∧ s i < i := by
  have h1 := T.lt i h hi
  have := S.low _ i h (T.edge i h hi) h1
  omega

theorem semi_path (T : Tree m par E) (S : Semi m par E s) : ∀ k w, m - w ≤ k → 0 < w → w < m → ∀ a, a < w → RA E a (s w) → RA E a w := by
  intro k
  induction k with
  | zero => intro w hk h0 hw; omega
  | succ k ih =>
    intro w hk h0 hw a ha h
    rcases S.att w h0 hw with ⟨v, hE, hv, e⟩ | ⟨v, u, hE, hv, hA, hu, e⟩
    · rw [e] at h
      exact .step h hE (by omega)
    · rw [e] at h
      have hvm := (T.dom _ _ hE).1
      have hum : u < m := by have := hA.le T hvm; omega
      have h1 := ih u (by omega) (by omega) hum a (by omega) h
      have h2 := reach_down T h1 (by omega) hA hvm
      exact .step h2 hE (by omega)

theorem dom_anc (T : Tree m par E) {a w : Nat} (hw : w < m) (h : ¬ RA E a w) : Anc par a w :=
  Classical.byContradiction fun k => h (tree_reach T w hw k)

/-- whoever dominates w and is not w dominates w's semidominator -/
theorem dom_semi (T : Tree m par E) (S : Semi m par E s) {a w : Nat} (h0 : 0 < w) (hw : w < m) (h : ¬ RA E a w) (hne : a ≠ w) : ¬ RA E a (s w) := by
  intro k
  have := (dom_anc T hw h).le T hw
  exact h (semi_path T S (m - w) w (Nat.le_refl _) h0 hw a (by omega) k)

theorem up_to (T : Tree m par E) (z : Nat) : ∀ z', z < z' → z' < m → ∃ u, Anc par u z' ∧ z < u ∧ par u ≤ z ∧ 0 < u := by
  intro z'
  induction z' using Nat.strongRecOn with
  | ind z' ih =>
    intro h hm
    have hlt := T.lt z' (by omega) hm
    by_cases c : par z' ≤ z
    · exact ⟨z', .refl, h, c, by omega⟩
    · obtain ⟨u, h1, h2⟩ := ih _ hlt (by omega) (by omega)
      exact ⟨u, .up (by omega) h1, h2⟩

theorem leap (T : Tree m par E) (hm : 0 < m) (S : Semi m par E s) {a z : Nat} (h : RA E a z) : a < z → Anc par a z → ∃ y, a < y ∧ Anc par a y ∧ Anc par y z ∧ s y < a ∧ RA E a y := by
  induction h with
  | zero h => intro h; omega
  | step hr hE hne ih =>
    rename_i z' z
    intro haz hA
    have hz' := (T.dom _ _ hE).1
    have hz := (T.dom _ _ hE).2
    have hself : RA E a z := .step hr hE hne
    by_cases c : z' < a
    · exact ⟨z, haz, hA, .refl, by have := S.low z' z (by omega) hE (by omega); omega, hself⟩
    · have c' : a < z' := by have := hr.ne; omega
      by_cases hA' : Anc par a z'
      · obtain ⟨y, h1, h2, h3, h4, h5⟩ := ih c' hA'
        rcases Nat.lt_trichotomy z' z with c1 | c1 | c1
        · exact ⟨y, h1, h2, h3.trans (T.fwd _ _ hE c1), h4, h5⟩
        · subst c1; exact ⟨y, h1, h2, h3, h4, h5⟩
        · by_cases c2 : z < y
          · exact ⟨z, haz, hA, .refl, by have := S.high z' z y (by omega) hE c1 h3 c2; omega, hself⟩
          · exact ⟨y, h1, h2, T.ival y z z' h3 hz' (by omega) (by omega), h4, h5⟩
      · have c1 : z < z' := by
          rcases Nat.lt_trichotomy z' z with c1 | c1 | c1
          · exact absurd (T.ival a z' z hA hz (by omega) (by omega)) hA'
          · subst c1; exact absurd hA hA'
          · exact c1
        obtain ⟨u, h1, h2, h3, h4⟩ := up_to T z z' c1 hz'
        have hu : u < m := by have := h1.le T hz'; omega
        have hpu : par u < a := by
          rcases Nat.lt_or_ge (par u) a with c | c
          · exact c
          · have h6 := T.ival a (par u) z hA hz c h3
            exact absurd (h6.trans ((Anc.up h4 .refl : Anc par (par u) u).trans h1)) hA'
        have h5 := S.high z' z u (by omega) hE c1 h1 h2
        have h6 := (semi_lt T S h4 hu).1
        exact ⟨z, haz, hA, .refl, by omega, hself⟩

/-- the first case: nothing on the way has a lower semidominator -/
theorem dom_first (T : Tree m par E) (hm : 0 < m) (S : Semi m par E s) {w : Nat} (h0 : 0 < w) (hw : w < m) (hmin : ∀ x, Anc par x w → s w < x → s w ≤ s x) (hA : Anc par (s w) w) (a : Nat) :
    (¬ RA E a w ∧ a ≠ w) ↔ ¬ RA E a (s w) := by
  have hlt := (semi_lt T S h0 hw).2
  constructor
  · rintro ⟨h1, h2⟩
    exact dom_semi T S h0 hw h1 h2
  · intro h
    have hsw : ¬ RA E (s w) w := by
      intro k
      obtain ⟨y, h1, h2, h3, h4, _⟩ := leap T hm S k hlt hA
      have := hmin y h3 h1
      omega
    have hale := (dom_anc T (by omega) h).le T (by omega)
    refine ⟨fun k => ?_, by omega⟩
    by_cases e : a = s w
    · subst e; exact hsw k
    · -- a path to w that avoids a and does not pass s w would avoid s w
      have haA : Anc par a w := (dom_anc T (by omega) h).trans hA
      obtain ⟨y, h1, h2, h3, h4, h5⟩ := leap T hm S k (by omega) haA
      rcases Nat.lt_or_ge (s w) y with c | c
      · have := hmin y h3 c; omega
      · have h6 : Anc par y (s w) := Anc.total T hw h3 hA c
        exact h (reach_down T h5 h1 h6 (by omega))

/-- the second case: u on the way has the least semidominator -/
theorem dom_second (T : Tree m par E) (hm : 0 < m) (S : Semi m par E s) {w u : Nat} (h0 : 0 < w) (hw : w < m) (hA : Anc par (s w) w) (hu : Anc par u w) (hsu : s w < u) (hmin : ∀ x, Anc par x w → s w < x → s u ≤ s x) (hlow : s u < s w) (a : Nat) :
    (¬ RA E a w ∧ a ≠ w) ↔ (¬ RA E a u ∧ a ≠ u) := by
  have hum : u < m := by have := hu.le T hw; omega
  constructor
  · rintro ⟨h1, h2⟩
    have h3 := dom_semi T S h0 hw h1 h2
    have h4 := (dom_anc T (by have := (semi_lt T S h0 hw).2; omega) h3).le T (by have := (semi_lt T S h0 hw).2; omega)
    exact ⟨fun k => h1 (reach_down T k (by omega) hu hw), by omega⟩
  · rintro ⟨h1, h2⟩
    have h3 := dom_semi T S (by omega) hum h1 h2
    have h4 := (dom_anc T (by have := (semi_lt T S (by omega) hum).2; omega) h3).le T (by have := (semi_lt T S (by omega) hum).2; omega)
    have hule := hu.le T hw
    refine ⟨fun k => ?_, by omega⟩
    have haA : Anc par a w := (dom_anc T hum h1).trans hu
    obtain ⟨y, h5, h6, h7, h8, h9⟩ := leap T hm S k (by omega) haA
    rcases Nat.lt_or_ge (s w) y with c | c
    · have := hmin y h7 c; omega
    · have h10 : Anc par y u := Anc.total T hw h7 hu (by omega)
      exact h1 (reach_down T h9 h5 h10 hum)
end
end Go.Proofs.Qxb6602963a
