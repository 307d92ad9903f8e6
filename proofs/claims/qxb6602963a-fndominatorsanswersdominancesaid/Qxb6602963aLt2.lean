import Derived.Test.Qxb6602963aLt
namespace Go.Proofs.Qxb6602963a
set_option linter.unusedVariables false
section
variable {m : Nat} {par : Nat → Nat} {E : Nat → Nat → Prop} {s d0 d : Nat → Nat}

theorem semi_anc (T : Tree m par E) (S : Semi m par E s) : ∀ k w, m - w ≤ k → 0 < w → w < m → Anc par (s w) w := by
  intro k
  induction k with
  | zero => intro w hk h0 hw; omega
  | succ k ih =>
    intro w hk h0 hw
    have hlt := (semi_lt T S h0 hw).2
    rcases S.att w h0 hw with ⟨v, hE, hv, e⟩ | ⟨v, u, hE, hv, hA, hu, e⟩
    · rw [e]; exact T.fwd _ _ hE hv
    · have hvm := (T.dom _ _ hE).1
      have hum : u < m := by have := hA.le T hvm; omega
      have h1 := ih u (by omega) (by omega) hum
      rw [e] at hlt ⊢
      exact T.ival _ w v (h1.trans hA) hvm (by omega) (by omega)

/-- what the buckets give: u of the least semidominator on the way from s w to w -/
def First (m : Nat) (par s d0 : Nat → Nat) (w : Nat) : Prop :=
  ∃ u, Anc par u w ∧ s w < u ∧ (∀ x, Anc par x w → s w < x → s u ≤ s x) ∧ d0 w = if s u < s w then u else s w

/-- the last pass -/
def Last (s d0 d : Nat → Nat) (w : Nat) : Prop := d w = if d0 w = s w then d0 w else d (d0 w)

theorem idom_ok (T : Tree m par E) (hm : 0 < m) (S : Semi m par E s) (hF : ∀ w, 0 < w → w < m → First m par s d0 w) (hL : ∀ w, 0 < w → w < m → Last s d0 d w) :
    ∀ w, 0 < w → w < m → d w < w ∧ ∀ a, (¬ RA E a w ∧ a ≠ w) ↔ ¬ RA E a (d w) := by
  intro w
  induction w using Nat.strongRecOn with
  | ind w ih =>
    intro h0 hw
    obtain ⟨u, h1, h2, h3, h4⟩ := hF w h0 hw
    have hl := hL w h0 hw
    have hs := (semi_lt T S h0 hw).2
    have hA := semi_anc T S (m - w) w (Nat.le_refl _) h0 hw
    have hule := h1.le T hw
    unfold Last at hl
    by_cases c : s u < s w
    · rw [if_pos c] at h4
      rw [h4, if_neg (by omega)] at hl
      have hne : u ≠ w := by rintro rfl; omega
      obtain ⟨i1, i2⟩ := ih u (by omega) (by omega) (by omega)
      refine ⟨by omega, fun a => ?_⟩
      rw [dom_second T hm S h0 hw hA h1 h2 h3 c a, i2 a, hl]
    · rw [if_neg c] at h4
      rw [h4, if_pos rfl] at hl
      refine ⟨by omega, fun a => ?_⟩
      rw [dom_first T hm S h0 hw (fun x hx hx2 => by have := h3 x hx hx2; omega) hA a, hl]

theorem dom_tree (hd : ∀ w, 0 < w → w < m → d w < w ∧ ∀ a, (¬ RA E a w ∧ a ≠ w) ↔ ¬ RA E a (d w)) : ∀ b, b < m → ∀ a, ¬ RA E a b ↔ Anc d a b := by
  intro b
  induction b using Nat.strongRecOn with
  | ind b ih =>
    intro hb a
    rcases Nat.eq_zero_or_pos b with h | h
    · subst h
      constructor
      · intro k
        have : a = 0 := Classical.byContradiction fun e => k (.zero e)
        exact this ▸ .refl
      · intro k
        cases k with
        | refl => exact fun k => k.ne rfl
        | up h0 _ => omega
    · obtain ⟨h1, h2⟩ := hd b h hb
      constructor
      · intro k
        by_cases e : a = b
        · exact e ▸ .refl
        · exact .up h ((ih _ h1 (by omega) a).1 ((h2 a).1 ⟨k, e⟩))
      · intro k
        cases k with
        | refl => exact fun k => k.ne rfl
        | up _ k => exact ((h2 a).2 ((ih _ h1 (by omega) a).2 k)).1

/-! ### the forest that eval compresses -/

/-- vertices from L on are linked: anc v lies above v, lab v has the least s on the way (anc v, v], which is all linked -/
structure Forest (m L : Nat) (par s : Nat → Nat) (anc : Nat → Int) (lab : Nat → Nat) : Prop where
  low : ∀ v, v < L → v < m → anc v = -1 ∧ lab v = v
  high : ∀ v, L ≤ v → v < m → ∃ a, anc v = (a : Nat) ∧ a < v ∧ Anc par a v ∧ Anc par (lab v) v ∧ a < lab v ∧ (∀ x, Anc par x v → a < x → s (lab v) ≤ s x) ∧ ∀ x, Anc par x v → a < x → L ≤ x

/-- what eval hands back -/
def EvalOk (L : Nat) (par s : Nat → Nat) (v u : Nat) : Prop := (v < L ∧ u = v) ∨ (L ≤ v ∧ L ≤ u ∧ Anc par u v ∧ ∀ x, Anc par x v → L ≤ x → s u ≤ s x)

/-- where the vertex above is not linked the label is the answer -/
theorem Forest.top {L : Nat} {anc : Nat → Int} {lab : Nat → Nat} (T : Tree m par E) (F : Forest m L par s anc lab) {v a : Nat} (hv : L ≤ v) (hm : v < m) (ha : anc v = (a : Int)) (haL : a < L) : EvalOk L par s v (lab v) := by
  obtain ⟨a', h1, h2, h3, h4, h5, h6, h7⟩ := F.high v hv hm
  obtain rfl : a = a' := by rw [h1] at ha; omega
  exact .inr ⟨hv, h7 _ h4 h5, h4, fun x hx hL => h6 x hx (by omega)⟩

/-- one step of the compression at x, whose ancestor a has a root r above it -/
theorem Forest.squeeze {L : Nat} {anc : Nat → Int} {lab : Nat → Nat} (T : Tree m par E) (F : Forest m L par s anc lab) {x a r : Nat} (hx : L ≤ x) (hm : x < m) (ha : anc x = (a : Int)) (haL : L ≤ a) (hr : anc a = (r : Int)) :
    Forest m L par s (fun j => if j = x then (r : Int) else anc j) (fun j => if j = x then (if s (lab a) < s (lab x) then lab a else lab x) else lab j) := by
  obtain ⟨a', h1, h2, h3, h4, h5, h6, h7⟩ := F.high x hx hm
  obtain rfl : a = a' := by rw [h1] at ha; omega
  obtain ⟨r', g1, g2, g3, g4, g5, g6, g7⟩ := F.high a haL (by omega)
  obtain rfl : r = r' := by rw [g1] at hr; omega
  refine ⟨fun v hv hvm => ?_, fun v hv hvm => ?_⟩
  · have : v ≠ x := by omega
    simp only [this, if_false]
    exact F.low v hv hvm
  · by_cases e : v = x
    · subst e
      simp only [if_true]
      have hsplit : ∀ y, Anc par y v → r < y → (Anc par y a ∧ r < y) ∨ (a < y) := fun y hy hry => by
        rcases Nat.lt_or_ge a y with c | c
        · exact .inr c
        · exact .inl ⟨Anc.total T hvm hy h3 c, hry⟩
      refine ⟨r, rfl, by omega, g3.trans h3, ?_, ?_, fun y hy hry => ?_, fun y hy hry => ?_⟩
      · split
        · exact g4.trans h3
        · exact h4
      · split <;> omega
      · rcases hsplit y hy hry with ⟨c1, c2⟩ | c
        · have := g6 y c1 c2
          split <;> omega
        · have := h6 y hy c
          split <;> omega
      · rcases hsplit y hy hry with ⟨c1, c2⟩ | c
        · exact g7 y c1 c2
        · exact h7 y hy c
    · simp only [e, if_false]
      exact F.high v hv hvm

/-- linking i to its parent -/
theorem Forest.link {i : Nat} {anc : Nat → Int} {lab : Nat → Nat} (T : Tree m par E) (F : Forest m (i + 1) par s anc lab) (h0 : 0 < i) (hm : i < m) :
    Forest m i par s (fun j => if j = i then ((par i : Nat) : Int) else anc j) lab := by
  refine ⟨fun v hv hvm => ?_, fun v hv hvm => ?_⟩
  · have : v ≠ i := by omega
    simp only [this, if_false]
    exact F.low v (by omega) hvm
  · by_cases e : v = i
    · subst e
      simp only [if_true]
      have hl := (F.low v (by omega) hm).2
      rw [hl]
      have hp := T.lt v h0 hm
      have only : ∀ x, Anc par x v → par v < x → x = v := fun x hx hpx => Classical.byContradiction fun e => by
        have := (hx.par_of_ne e).2.le T (by omega)
        omega
      exact ⟨par v, rfl, hp, .up h0 .refl, .refl, hp, fun x hx hpx => by rw [only x hx hpx]; exact Nat.le_refl _, fun x hx hpx => by rw [only x hx hpx]; exact Nat.le_refl _⟩
    · simp only [e, if_false]
      obtain ⟨a, h1, h2, h3, h4, h5, h6, h7⟩ := F.high v (by omega) hvm
      exact ⟨a, h1, h2, h3, h4, h5, h6, fun x hx hax => by have := h7 x hx hax; omega⟩

/-- s may turn below L -/
theorem Forest.semi {L : Nat} {anc : Nat → Int} {lab s' : Nat → Nat} (T : Tree m par E) (F : Forest m L par s anc lab) (h : ∀ x, L ≤ x → s' x = s x) : Forest m L par s' anc lab := by
  refine ⟨F.low, fun v hv hvm => ?_⟩
  obtain ⟨a, h1, h2, h3, h4, h5, h6, h7⟩ := F.high v hv hvm
  refine ⟨a, h1, h2, h3, h4, h5, fun x hx hax => ?_, h7⟩
  rw [h _ (h7 _ h4 h5), h _ (h7 x hx hax)]
  exact h6 x hx hax
end
end Go.Proofs.Qxb6602963a
