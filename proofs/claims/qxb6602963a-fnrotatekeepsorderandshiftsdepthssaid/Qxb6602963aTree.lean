/-
  PLAIN LAWS ON BINARY TREES THAT LIE IN THREE ARRAYS (left, right, up): no Go in sight.
-/
namespace Go.Proofs.Qxb6602963a
set_option linter.unusedVariables false

/-- v is one of the vertices 1 .. L-1 -/
def Vx (L v : Nat) : Prop := 0 < v ∧ v < L

structure OK (l r u : Nat → Nat) (L : Nat) : Prop where
  bl : ∀ v, Vx L v → l v < L
  br : ∀ v, Vx L v → r v < L
  bu : ∀ v, Vx L v → u v < L
  ul : ∀ v, Vx L v → l v ≠ 0 → u (l v) = v
  ur : ∀ v, Vx L v → r v ≠ 0 → u (r v) = v
  ne : ∀ v, Vx L v → l v ≠ 0 → l v ≠ r v
  acy : ∃ rk : Nat → Nat, ∀ v, Vx L v → u v ≠ 0 → rk (u v) < rk v

/-- v is a child of its up: it does not head its tree -/
def Kid (l r u : Nat → Nat) (v : Nat) : Prop := u v ≠ 0 ∧ (l (u v) = v ∨ r (u v) = v)

/-- The trees' in-order with depths. -/
structure Trav (l r : Nat → Nat) (L : Nat) (T : Nat → Nat → List (Nat × Nat)) : Prop where
  zero : ∀ d, T d 0 = []
  node : ∀ d v, Vx L v → T d v = T (d + 1) (l v) ++ (v, d) :: T (d + 1) (r v)

def io (l r : Nat → Nat) : Nat → Nat → Nat → List (Nat × Nat)
  | 0, _, _ => []
  | f + 1, d, v => if v = 0 then [] else io l r f (d + 1) (l v) ++ (v, d) :: io l r f (d + 1) (r v)

def mxn (f : Nat → Nat) : Nat → Nat
  | 0 => 0
  | k + 1 => max (mxn f k) (f k)

theorem le_mxn (f : Nat → Nat) (n k : Nat) (h : k < n) : f k ≤ mxn f n := by
  induction n with
  | zero => omega
  | succ n ih =>
    simp only [mxn]
    by_cases e : k = n
    · subst e; omega
    · have := ih (by omega); omega

/-- A height: a kid's is less. -/
theorem OK.height {l r u : Nat → Nat} {L : Nat} (h : OK l r u L) : ∃ ht : Nat → Nat, ∀ v, Vx L v → (l v ≠ 0 → ht (l v) < ht v) ∧ (r v ≠ 0 → ht (r v) < ht v) := by
  obtain ⟨rk, hrk⟩ := h.acy
  refine ⟨fun v => mxn rk L - rk v, fun v hv => ⟨fun hl => ?_, fun hr => ?_⟩⟩
  · have h1 := hrk (l v) ⟨by omega, h.bl v hv⟩ (by rw [h.ul v hv hl]; have := hv.1; omega)
    rw [h.ul v hv hl] at h1
    have h2 := le_mxn rk L (l v) (h.bl v hv)
    show mxn rk L - rk (l v) < mxn rk L - rk v
    omega
  · have h1 := hrk (r v) ⟨by omega, h.br v hv⟩ (by rw [h.ur v hv hr]; have := hv.1; omega)
    rw [h.ur v hv hr] at h1
    have h2 := le_mxn rk L (r v) (h.br v hv)
    show mxn rk L - rk (r v) < mxn rk L - rk v
    omega

theorem io_more {l r u : Nat → Nat} {L : Nat} (h : OK l r u L) {ht : Nat → Nat} (hh : ∀ v, Vx L v → (l v ≠ 0 → ht (l v) < ht v) ∧ (r v ≠ 0 → ht (r v) < ht v)) :
    ∀ f g d v, v < L → ht v < f → ht v < g → io l r f d v = io l r g d v := by
  intro f
  induction f with
  | zero => intro g d v _ h1 _; omega
  | succ f ih =>
    intro g d v hv h1 h2
    match g, h2 with
    | g + 1, h2 =>
      simp only [io]
      by_cases hz : v = 0
      · rw [if_pos hz, if_pos hz]
      · rw [if_neg hz, if_neg hz]
        have hx : Vx L v := ⟨by omega, hv⟩
        have e1 : io l r f (d + 1) (l v) = io l r g (d + 1) (l v) := by
          by_cases hl : l v = 0
          · rw [hl]
            cases f <;> cases g <;> simp [io]
          · have := (hh v hx).1 hl
            exact ih g _ _ (h.bl v hx) (by omega) (by omega)
        have e2 : io l r f (d + 1) (r v) = io l r g (d + 1) (r v) := by
          by_cases hl : r v = 0
          · rw [hl]
            cases f <;> cases g <;> simp [io]
          · have := (hh v hx).2 hl
            exact ih g _ _ (h.br v hx) (by omega) (by omega)
        rw [e1, e2]

theorem OK.trav {l r u : Nat → Nat} {L : Nat} (h : OK l r u L) : ∃ T, Trav l r L T := by
  obtain ⟨ht, hh⟩ := h.height
  refine ⟨fun d v => io l r (mxn ht L + 1) d v, fun d => by simp [io], fun d v hv => ?_⟩
  have e := io_more h hh (mxn ht L + 1) (mxn ht L + 2) d v hv.2 (by have := le_mxn ht L v hv.2; omega) (by have := le_mxn ht L v hv.2; omega)
  rw [e]
  show io l r (mxn ht L + 1 + 1) d v = _
  rw [io, if_neg (by have := hv.1; omega)]

/-- m steps up inside one tree lead from v to a -/
def Anc (l r u : Nat → Nat) (L : Nat) : Nat → Nat → Nat → Prop
  | 0, v, a => v = a
  | m + 1, v, a => Vx L v ∧ Kid l r u v ∧ Anc l r u L m (u v) a

theorem Anc.trans {l r u : Nat → Nat} {L : Nat} : ∀ {m n v a b}, Anc l r u L m v a → Anc l r u L n a b → Anc l r u L (m + n) v b
  | 0, n, v, a, b, h, k => by
    have : v = a := h
    subst this
    rw [Nat.zero_add]; exact k
  | m + 1, n, v, a, b, ⟨h1, h2, h3⟩, k => by
    rw [show m + 1 + n = (m + n) + 1 by omega]
    exact ⟨h1, h2, h3.trans k⟩

theorem Anc.det {l r u : Nat → Nat} {L : Nat} : ∀ {m n v a b}, Anc l r u L m v a → Anc l r u L (m + n) v b → Anc l r u L n a b
  | 0, n, v, a, b, h, k => by
    have : v = a := h
    subst this
    rwa [Nat.zero_add] at k
  | m + 1, n, v, a, b, ⟨h1, h2, h3⟩, k => by
    rw [show m + 1 + n = (m + n) + 1 by omega] at k
    exact h3.det k.2.2

theorem Anc.rank {l r u : Nat → Nat} {L : Nat} {rk : Nat → Nat} (hrk : ∀ v, Vx L v → u v ≠ 0 → rk (u v) < rk v) : ∀ {m v a}, Anc l r u L m v a → rk a + m ≤ rk v
  | 0, v, a, h => by
    have : v = a := h
    subst this; omega
  | m + 1, v, a, ⟨h1, h2, h3⟩ => by
    have := h3.rank hrk
    have := hrk v h1 h2.1
    omega

/-- no vertex is its own ancestor -/
theorem Anc.irrefl {l r u : Nat → Nat} {L : Nat} (h : OK l r u L) {m v : Nat} (k : Anc l r u L (m + 1) v v) : False := by
  obtain ⟨rk, hrk⟩ := h.acy
  have := k.rank hrk
  omega

theorem OK.kid_l {l r u : Nat → Nat} {L : Nat} (h : OK l r u L) {a : Nat} (ha : Vx L a) (hl : l a ≠ 0) : Vx L (l a) ∧ Kid l r u (l a) ∧ u (l a) = a := by
  have e := h.ul a ha hl
  exact ⟨⟨by omega, h.bl a ha⟩, ⟨by rw [e]; have := ha.1; omega, .inl (by rw [e])⟩, e⟩
theorem OK.kid_r {l r u : Nat → Nat} {L : Nat} (h : OK l r u L) {a : Nat} (ha : Vx L a) (hr : r a ≠ 0) : Vx L (r a) ∧ Kid l r u (r a) ∧ u (r a) = a := by
  have e := h.ur a ha hr
  exact ⟨⟨by omega, h.br a ha⟩, ⟨by rw [e]; have := ha.1; omega, .inr (by rw [e])⟩, e⟩
theorem OK.anc_l {l r u : Nat → Nat} {L : Nat} (h : OK l r u L) {a : Nat} (ha : Vx L a) (hl : l a ≠ 0) : Anc l r u L 1 (l a) a := by
  obtain ⟨h1, h2, h3⟩ := h.kid_l ha hl
  exact ⟨h1, h2, h3⟩
theorem OK.anc_r {l r u : Nat → Nat} {L : Nat} (h : OK l r u L) {a : Nat} (ha : Vx L a) (hr : r a ≠ 0) : Anc l r u L 1 (r a) a := by
  obtain ⟨h1, h2, h3⟩ := h.kid_r ha hr
  exact ⟨h1, h2, h3⟩

/-- induction over trees -/
theorem OK.tree_ind {l r u : Nat → Nat} {L : Nat} (h : OK l r u L) {p : Nat → Prop} (h0 : p 0) (hs : ∀ v, Vx L v → p (l v) → p (r v) → p v) : ∀ v, v < L → p v := by
  obtain ⟨ht, hh⟩ := h.height
  have : ∀ n v, ht v < n → v < L → p v := by
    intro n
    induction n with
    | zero => intro v hn; omega
    | succ n ih =>
      intro v hn hv
      by_cases hz : v = 0
      · subst hz; exact h0
      · have hx : Vx L v := ⟨by omega, hv⟩
        refine hs v hx ?_ ?_
        · by_cases hl : l v = 0
          · rw [hl]; exact h0
          · exact ih _ (by have := (hh v hx).1 hl; omega) (h.bl v hx)
        · by_cases hl : r v = 0
          · rw [hl]; exact h0
          · exact ih _ (by have := (hh v hx).2 hl; omega) (h.br v hx)
  intro v hv
  exact this (ht v + 1) v (by omega) hv

/-- what stands in a tree's in-order: its vertices, each with its depth -/
theorem Trav.mem {l r u : Nat → Nat} {L : Nat} (h : OK l r u L) {T : Nat → Nat → List (Nat × Nat)} (t : Trav l r L T) :
    ∀ a, a < L → ∀ d v e, (v, e) ∈ T d a → Vx L v ∧ ∃ m, e = d + m ∧ Anc l r u L m v a := by
  refine h.tree_ind (p := fun a => ∀ d v e, (v, e) ∈ T d a → Vx L v ∧ ∃ m, e = d + m ∧ Anc l r u L m v a) ?_ ?_
  · intro d v e hm
    rw [t.zero] at hm
    cases hm
  · intro a ha il ir d v e hm
    rw [t.node d a ha, List.mem_append, List.mem_cons] at hm
    rcases hm with hm | hm | hm
    · obtain ⟨h1, m, h2, h3⟩ := il _ _ _ hm
      have hl : l a ≠ 0 := by
        intro e0; rw [e0, t.zero] at hm; cases hm
      exact ⟨h1, m + 1, by omega, h3.trans (h.anc_l ha hl)⟩
    · cases hm
      exact ⟨ha, 0, by omega, rfl⟩
    · obtain ⟨h1, m, h2, h3⟩ := ir _ _ _ hm
      have hl : r a ≠ 0 := by
        intro e0; rw [e0, t.zero] at hm; cases hm
      exact ⟨h1, m + 1, by omega, h3.trans (h.anc_r ha hl)⟩

/-- .. and every vertex of the tree stands there -/
theorem Trav.mem_of {l r u : Nat → Nat} {L : Nat} (h : OK l r u L) {T : Nat → Nat → List (Nat × Nat)} (t : Trav l r L T) :
    ∀ m v a, Vx L v → Anc l r u L m v a → ∀ d y e, (y, e) ∈ T (d + m) v → (y, e) ∈ T d a := by
  intro m
  induction m with
  | zero =>
    intro v a hv k d y e hm
    have : v = a := k
    subst this
    exact hm
  | succ m ih =>
    intro v a hv k d y e hm
    obtain ⟨_, hk, k2⟩ := k
    have hu : Vx L (u v) := ⟨by have := hk.1; omega, h.bu v hv⟩
    refine ih (u v) a hu k2 d y e ?_
    rw [t.node (d + m) (u v) hu, List.mem_append, List.mem_cons]
    rcases hk.2 with e1 | e1
    · left; rw [e1, show d + m + 1 = d + (m + 1) by omega]; exact hm
    · right; right; rw [e1, show d + m + 1 = d + (m + 1) by omega]; exact hm

theorem Trav.self {l r : Nat → Nat} {L : Nat} {T : Nat → Nat → List (Nat × Nat)} (t : Trav l r L T) {d v : Nat} (hv : Vx L v) : (v, d) ∈ T d v := by
  rw [t.node d v hv]
  simp

theorem Trav.mem_iff {l r u : Nat → Nat} {L : Nat} (h : OK l r u L) {T : Nat → Nat → List (Nat × Nat)} (t : Trav l r L T) {a d v e : Nat} (ha : a < L) :
    (v, e) ∈ T d a ↔ Vx L v ∧ ∃ m, e = d + m ∧ Anc l r u L m v a := by
  constructor
  · exact t.mem h a ha d v e
  · rintro ⟨hv, m, rfl, k⟩
    exact t.mem_of h m v a hv k d v _ (t.self hv)

/-- the in-order passes no vertex twice -/
theorem Trav.nodup {l r u : Nat → Nat} {L : Nat} (h : OK l r u L) {T : Nat → Nat → List (Nat × Nat)} (t : Trav l r L T) :
    ∀ a, a < L → ∀ d, ((T d a).map Prod.fst).Nodup := by
  refine h.tree_ind (p := fun a => ∀ d, ((T d a).map Prod.fst).Nodup) ?_ ?_
  · intro d; rw [t.zero]; simp
  · intro a ha il ir d
    rw [t.node d a ha, List.map_append, List.map_cons, List.nodup_append, List.nodup_cons]
    refine ⟨il _, ⟨?_, ir _⟩, ?_⟩
    · intro hm
      obtain ⟨⟨v, e⟩, h1, h2⟩ := List.mem_map.1 hm
      simp only at h2
      subst h2
      obtain ⟨hv, m, _, k⟩ := t.mem h _ (h.br _ ha) _ _ _ h1
      have hr : r v ≠ 0 := by intro e0; rw [e0, t.zero] at h1; cases h1
      exact Anc.irrefl h (k.trans (h.anc_r ha hr))
    · intro x hx y hy e
      subst e
      obtain ⟨⟨v, e⟩, h1, h2⟩ := List.mem_map.1 hx
      simp only at h2
      subst h2
      have hl : l a ≠ 0 := by intro e0; rw [e0, t.zero] at h1; cases h1
      obtain ⟨hv, m, _, k⟩ := t.mem h _ (h.bl _ ha) _ _ _ h1
      rw [List.mem_cons] at hy
      rcases hy with rfl | hy
      · exact Anc.irrefl h (k.trans (h.anc_l ha hl))
      · obtain ⟨⟨v', e'⟩, h3, h4⟩ := List.mem_map.1 hy
        simp only at h4
        subst h4
        have hr : r a ≠ 0 := by intro e0; rw [e0, t.zero] at h3; cases h3
        obtain ⟨_, m', _, k'⟩ := t.mem h _ (h.br _ ha) _ _ _ h3
        rcases Nat.lt_trichotomy m m' with hlt | heq | hlt
        · obtain ⟨n, rfl⟩ : ∃ n, m' = m + (1 + n) := ⟨m' - m - 1, by omega⟩
          have k2 := k.det k'
          have k3 := (h.anc_l ha hl).det k2
          exact Anc.irrefl h (k3.trans (h.anc_r ha hr))
        · subst heq
          have k2 := Anc.det (n := 0) k k'
          exact h.ne a ha hl k2
        · obtain ⟨n, rfl⟩ : ∃ n, m = m' + (1 + n) := ⟨m - m' - 1, by omega⟩
          have k2 := k'.det k
          have k3 := (h.anc_r ha hr).det k2
          exact Anc.irrefl h (k3.trans (h.anc_l ha hl))

/-- two heads' trees share no vertex -/
theorem heads_apart {l r u : Nat → Nat} {L : Nat} {m n v a b : Nat} (ha : ¬ Kid l r u a) (hb : ¬ Kid l r u b) (k1 : Anc l r u L m v a) (k2 : Anc l r u L n v b) : a = b ∧ m = n := by
  rcases Nat.lt_trichotomy m n with hlt | heq | hlt
  · obtain ⟨j, rfl⟩ : ∃ j, n = m + (j + 1) := ⟨n - m - 1, by omega⟩
    exact absurd (k1.det k2).2.1 ha
  · subst heq
    exact ⟨Anc.det (n := 0) k1 k2, rfl⟩
  · obtain ⟨j, rfl⟩ : ∃ j, m = n + (j + 1) := ⟨m - n - 1, by omega⟩
    exact absurd (k2.det k1).2.1 hb

/-- every vertex lies in a head's tree -/
theorem OK.head {l r u : Nat → Nat} {L : Nat} (h : OK l r u L) (v : Nat) (hv : Vx L v) : ∃ a m, Vx L a ∧ ¬ Kid l r u a ∧ Anc l r u L m v a := by
  obtain ⟨rk, hrk⟩ := h.acy
  have : ∀ n v, rk v < n → Vx L v → ∃ a m, Vx L a ∧ ¬ Kid l r u a ∧ Anc l r u L m v a := by
    intro n
    induction n with
    | zero => intro v hn; omega
    | succ n ih =>
      intro v hn hv
      by_cases hk : Kid l r u v
      · have hu : Vx L (u v) := ⟨by have := hk.1; omega, h.bu v hv⟩
        obtain ⟨a, m, h1, h2, h3⟩ := ih (u v) (by have := hrk v hv hk.1; omega) hu
        exact ⟨a, m + 1, h1, h2, hv, hk, h3⟩
      · exact ⟨v, 0, hv, hk, rfl⟩
  exact this (rk v + 1) v (by omega) hv
end Go.Proofs.Qxb6602963a
