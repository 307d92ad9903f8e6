/-
  ONE ROTATION OF A TREE THAT LIES IN THREE ARRAYS: no Go in sight.
-/
import Derived.Test.Qxb6602963aTree
namespace Go.Proofs.Qxb6602963a
set_option linter.unusedVariables false

/-- x, the left kid of p, is rotated into p's place -/
structure RotL (l r u l' r' u' : Nat → Nat) (x p g : Nat) : Prop where
  hp : u x = p
  hg : u p = g
  hx : l p = x
  l_p : l' p = r x
  l_g : Kid l r u p → l g = p → l' g = x
  l_o : ∀ v, v ≠ p → ¬ (Kid l r u p ∧ l g = p ∧ v = g) → l' v = l v
  r_x : r' x = p
  r_g : Kid l r u p → l g ≠ p → r' g = x
  r_o : ∀ v, v ≠ x → ¬ (Kid l r u p ∧ l g ≠ p ∧ v = g) → r' v = r v
  u_p : u' p = x
  u_x : u' x = g
  u_c : r x ≠ 0 → u' (r x) = p
  u_o : ∀ v, v ≠ p → v ≠ x → ¬ (r x ≠ 0 ∧ v = r x) → u' v = u v

section
variable {l r u l' r' u' : Nat → Nat} {L x p g : Nat}

theorem OK.up_ne (h : OK l r u L) {v : Nat} (hv : Vx L v) (h0 : u v ≠ 0) : u v ≠ v := by
  obtain ⟨rk, hrk⟩ := h.acy
  intro e
  have := hrk v hv h0
  rw [e] at this
  omega

/-- the plain facts on the vertices of a rotation -/
structure Facts (l r u : Nat → Nat) (L x p g : Nat) : Prop where
  vx : Vx L x
  vp : Vx L p
  gL : g < L
  xp : x ≠ p
  gp : g ≠ p
  gx : g ≠ x
  cx : r x ≠ 0 → r x ≠ x
  cp : r x ≠ 0 → r x ≠ p
  uc : r x ≠ 0 → u (r x) = x
  vg : g ≠ 0 → Vx L g

theorem RotL.facts (h : OK l r u L) (R : RotL l r u l' r' u' x p g) (hx : Vx L x) (hp : p ≠ 0) : Facts l r u L x p g := by
  obtain ⟨rk, hrk⟩ := h.acy
  have vp : Vx L p := ⟨by omega, by rw [← R.hp]; exact h.bu x hx⟩
  have r1 : rk p < rk x := by have := hrk x hx (by rw [R.hp]; exact hp); rwa [R.hp] at this
  have gL : g < L := by rw [← R.hg]; exact h.bu p vp
  have r2 : g ≠ 0 → rk g < rk p := by intro hg; have := hrk p vp (by rw [R.hg]; exact hg); rwa [R.hg] at this
  have r3 : r x ≠ 0 → rk x < rk (r x) := by
    intro hc
    have := hrk (r x) ⟨by omega, h.br x hx⟩ (by rw [h.ur x hx hc]; have := hx.1; omega)
    rwa [h.ur x hx hc] at this
  have hx0 := hx.1
  refine ⟨hx, vp, gL, ?_, ?_, ?_, ?_, ?_, fun hc => h.ur x hx hc, fun hg => ⟨by omega, gL⟩⟩
  · intro e; rw [e] at r1; omega
  · intro e
    by_cases hg : g = 0
    · omega
    · have := r2 hg; rw [e] at this; omega
  · intro e
    by_cases hg : g = 0
    · omega
    · have := r2 hg; rw [e] at this; omega
  · intro hc e; have := r3 hc; rw [e] at this; omega
  · intro hc e; have := r3 hc; rw [e] at this; omega

theorem RotL.ok (h : OK l r u L) (R : RotL l r u l' r' u' x p g) (F : Facts l r u L x p g) : OK l' r' u' L := by
  obtain ⟨rk, hrk⟩ := h.acy
  have hx0 := F.vx.1
  have hp0 := F.vp.1
  refine ⟨?_, ?_, ?_, ?_, ?_, ?_, ?_⟩
  · intro v hv
    by_cases h1 : v = p
    · subst h1; rw [R.l_p]; exact h.br x F.vx
    · by_cases h2 : Kid l r u p ∧ l g = p ∧ v = g
      · obtain ⟨k, e, rfl⟩ := h2
        rw [R.l_g k e]; exact F.vx.2
      · rw [R.l_o v h1 h2]; exact h.bl v hv
  · intro v hv
    by_cases h1 : v = x
    · subst h1; rw [R.r_x]; exact F.vp.2
    · by_cases h2 : Kid l r u p ∧ l g ≠ p ∧ v = g
      · obtain ⟨k, e, rfl⟩ := h2
        rw [R.r_g k e]; exact F.vx.2
      · rw [R.r_o v h1 h2]; exact h.br v hv
  · intro v hv
    by_cases h1 : v = p
    · subst h1; rw [R.u_p]; exact F.vx.2
    · by_cases h2 : v = x
      · subst h2; rw [R.u_x]; exact F.gL
      · by_cases h3 : r x ≠ 0 ∧ v = r x
        · obtain ⟨hc, rfl⟩ := h3
          rw [R.u_c hc]; exact F.vp.2
        · rw [R.u_o v h1 h2 h3]; exact h.bu v hv
  · intro v hv hl
    by_cases h1 : v = p
    · subst h1; rw [R.l_p] at hl ⊢; exact R.u_c hl
    · by_cases h2 : Kid l r u p ∧ l g = p ∧ v = g
      · obtain ⟨k, e, rfl⟩ := h2
        rw [R.l_g k e]; exact R.u_x
      · rw [R.l_o v h1 h2] at hl ⊢
        have hu := h.ul v hv hl
        rw [R.u_o (l v) ?_ ?_ ?_]
        · exact hu
        · intro e
          rw [e, R.hg] at hu
          subst hu
          exact h2 ⟨⟨by rw [R.hg]; have := hv.1; omega, .inl (by rw [R.hg]; exact e)⟩, e, rfl⟩
        · intro e
          rw [e, R.hp] at hu
          exact h1 hu.symm
        · rintro ⟨hc, e⟩
          rw [e, F.uc hc] at hu
          subst hu
          exact h.ne x hv hl e
  · intro v hv hl
    by_cases h1 : v = x
    · subst h1; rw [R.r_x]; exact R.u_p
    · by_cases h2 : Kid l r u p ∧ l g ≠ p ∧ v = g
      · obtain ⟨k, e, rfl⟩ := h2
        rw [R.r_g k e]; exact R.u_x
      · rw [R.r_o v h1 h2] at hl ⊢
        have hu := h.ur v hv hl
        rw [R.u_o (r v) ?_ ?_ ?_]
        · exact hu
        · intro e
          rw [e, R.hg] at hu
          subst hu
          refine h2 ⟨⟨by rw [R.hg]; have := hv.1; omega, .inr (by rw [R.hg]; exact e)⟩, fun e2 => ?_, rfl⟩
          exact h.ne g hv (by rw [e2]; omega) (by rw [e2, e])
        · intro e
          rw [e, R.hp] at hu
          subst hu
          exact h.ne p hv (by rw [R.hx]; omega) (by rw [R.hx, e])
        · rintro ⟨hc, e⟩
          rw [e, F.uc hc] at hu
          exact h1 hu.symm
  · intro v hv hl
    by_cases h1 : v = p
    · subst h1
      rw [R.l_p] at hl ⊢
      by_cases h2 : Kid l r u v ∧ l g ≠ v ∧ v = g
      · exact absurd h2.2.2.symm F.gp
      · rw [R.r_o v F.xp.symm h2]
        intro e
        have e1 := F.uc hl
        rw [e] at e1 hl
        rw [h.ur v hv hl] at e1
        exact F.xp e1.symm
    · by_cases h3 : v = x
      · subst h3
        rw [R.r_x]
        by_cases h2 : Kid l r u p ∧ l g = p ∧ v = g
        · exact absurd h2.2.2.symm F.gx
        · rw [R.l_o v h1 h2] at hl ⊢
          intro e
          have e1 := h.ul v hv hl
          rw [e, R.hg] at e1
          exact F.gx e1
      · by_cases h2 : Kid l r u p ∧ l g = p ∧ v = g
        · obtain ⟨k, e, rfl⟩ := h2
          rw [R.l_g k e, R.r_o v h3 (fun hh => hh.2.1 e)]
          intro e2
          have e1 := h.ur v hv (by rw [← e2]; omega)
          rw [← e2, R.hp] at e1
          exact h1 e1.symm
        · rw [R.l_o v h1 h2] at hl ⊢
          by_cases h4 : Kid l r u p ∧ l g ≠ p ∧ v = g
          · obtain ⟨k, e, rfl⟩ := h4
            rw [R.r_g k e]
            intro e2
            have e1 := h.ul v hv hl
            rw [e2, R.hp] at e1
            exact h1 e1.symm
          · rw [R.r_o v h3 h4]
            exact h.ne v hv hl
  · have r1 : rk p < rk x := by have := hrk x F.vx (by rw [R.hp]; omega); rwa [R.hp] at this
    refine ⟨fun v => if v = x then 3 * rk p else if v = p then 3 * rk p + 1 else 3 * rk v, fun v hv h0 => ?_⟩
    show (if u' v = x then 3 * rk p else if u' v = p then 3 * rk p + 1 else 3 * rk (u' v)) < (if v = x then 3 * rk p else if v = p then 3 * rk p + 1 else 3 * rk v)
    by_cases h1 : v = p
    · subst h1
      rw [R.u_p, if_pos rfl, if_neg F.xp.symm, if_pos rfl]
      omega
    · by_cases h2 : v = x
      · subst h2
        rw [R.u_x] at h0 ⊢
        rw [if_neg F.gx, if_neg F.gp, if_pos rfl]
        have := hrk p F.vp (by rw [R.hg]; exact h0)
        rw [R.hg] at this
        omega
      · rw [if_neg h2, if_neg h1]
        by_cases h3 : r x ≠ 0 ∧ v = r x
        · obtain ⟨hc, rfl⟩ := h3
          rw [R.u_c hc, if_neg F.xp.symm, if_pos rfl]
          have := hrk (r x) hv (by rw [F.uc hc]; omega)
          rw [F.uc hc] at this
          omega
        · rw [R.u_o v h1 h2 h3] at h0 ⊢
          have := hrk v hv h0
          by_cases h4 : u v = x
          · rw [if_pos h4]; rw [h4] at this; omega
          · rw [if_neg h4]
            by_cases h5 : u v = p
            · rw [if_pos h5]; rw [h5] at this; omega
            · rw [if_neg h5]; omega

theorem RotL.head (h : OK l r u L) (R : RotL l r u l' r' u' x p g) (F : Facts l r u L x p g) {a : Nat} (ha : Vx L a) (hk : ¬ Kid l r u a) :
    (a = p → ¬ Kid l' r' u' x ∧ u' x = u p) ∧ (a ≠ p → ¬ Kid l' r' u' a ∧ u' a = u a) := by
  have hx0 := F.vx.1
  have hp0 := F.vp.1
  have kx : Kid l r u x := ⟨by rw [R.hp]; omega, .inl (by rw [R.hp]; exact R.hx)⟩
  refine ⟨?_, ?_⟩
  · intro e
    subst e
    refine ⟨?_, by rw [R.u_x, R.hg]⟩
    rintro ⟨h0, h1⟩
    rw [R.u_x] at h0 h1
    have vg := F.vg h0
    rcases h1 with h1 | h1
    · rw [R.l_o g F.gp (fun hh => hk hh.1)] at h1
      have := h.ul g vg (by rw [h1]; omega)
      rw [h1, R.hp] at this
      exact F.gp this.symm
    · rw [R.r_o g F.gx (fun hh => hk hh.1)] at h1
      have := h.ur g vg (by rw [h1]; omega)
      rw [h1, R.hp] at this
      exact F.gp this.symm
  · intro ne
    have hax : a ≠ x := by intro e; subst e; exact hk kx
    have hac : ¬ (r x ≠ 0 ∧ a = r x) := by
      rintro ⟨hc, rfl⟩
      exact hk (h.kid_r F.vx hc).2.1
    have hu := R.u_o a ne hax hac
    refine ⟨?_, hu⟩
    rintro ⟨h0, h1⟩
    rw [hu] at h0 h1
    have vy : Vx L (u a) := ⟨by omega, h.bu a ha⟩
    rcases h1 with h1 | h1
    · by_cases e1 : u a = p
      · rw [e1, R.l_p] at h1
        exact hac ⟨by rw [h1]; have := ha.1; omega, h1.symm⟩
      · by_cases e2 : Kid l r u p ∧ l g = p ∧ u a = g
        · obtain ⟨k, e3, e4⟩ := e2
          rw [e4, R.l_g k e3] at h1
          exact hax h1.symm
        · rw [R.l_o _ e1 e2] at h1
          exact hk ⟨h0, .inl h1⟩
    · by_cases e1 : u a = x
      · rw [e1, R.r_x] at h1
        exact ne h1.symm
      · by_cases e2 : Kid l r u p ∧ l g ≠ p ∧ u a = g
        · obtain ⟨k, e3, e4⟩ := e2
          rw [e4, R.r_g k e3] at h1
          exact hax h1.symm
        · rw [R.r_o _ e1 e2] at h1
          exact hk ⟨h0, .inr h1⟩

/-- v lies in a's tree -/
def Sub (l r u : Nat → Nat) (L a v : Nat) : Prop := ∃ m, Anc l r u L m v a

theorem sub_l_self (h : OK l r u L) {a : Nat} (ha : Vx L a) (hl : l a ≠ 0) : ¬ Sub l r u L (l a) a := fun ⟨m, k⟩ => Anc.irrefl h (k.trans (h.anc_l ha hl))
theorem sub_r_self (h : OK l r u L) {a : Nat} (ha : Vx L a) (hl : r a ≠ 0) : ¬ Sub l r u L (r a) a := fun ⟨m, k⟩ => Anc.irrefl h (k.trans (h.anc_r ha hl))
theorem sub_of_l (h : OK l r u L) {a v : Nat} (ha : Vx L a) (hl : l a ≠ 0) (k : Sub l r u L (l a) v) : Sub l r u L a v := let ⟨m, k⟩ := k; ⟨_, k.trans (h.anc_l ha hl)⟩
theorem sub_of_r (h : OK l r u L) {a v : Nat} (ha : Vx L a) (hl : r a ≠ 0) (k : Sub l r u L (r a) v) : Sub l r u L a v := let ⟨m, k⟩ := k; ⟨_, k.trans (h.anc_r ha hl)⟩
theorem sub_apart (h : OK l r u L) {a v : Nat} (ha : Vx L a) (hl : l a ≠ 0) (hr : r a ≠ 0) : Sub l r u L (l a) v → Sub l r u L (r a) v → False := by
  rintro ⟨m, k⟩ ⟨m', k'⟩
  rcases Nat.lt_trichotomy m m' with hlt | heq | hlt
  · obtain ⟨n, rfl⟩ : ∃ n, m' = m + (1 + n) := ⟨m' - m - 1, by omega⟩
    exact Anc.irrefl h (((h.anc_l ha hl).det (k.det k')).trans (h.anc_r ha hr))
  · subst heq
    exact h.ne a ha hl (Anc.det (n := 0) k k')
  · obtain ⟨n, rfl⟩ : ∃ n, m = m' + (1 + n) := ⟨m - m' - 1, by omega⟩
    exact Anc.irrefl h (((h.anc_r ha hr).det (k'.det k)).trans (h.anc_l ha hl))

/-- subtrees that hold neither x nor p stand as they stood -/
theorem RotL.same (h : OK l r u L) (R : RotL l r u l' r' u' x p g) (F : Facts l r u L x p g) {T T' : Nat → Nat → List (Nat × Nat)} (t : Trav l r L T) (t' : Trav l' r' L T') :
    ∀ a, a < L → (a ≠ 0 → ¬ Sub l r u L a x ∧ ¬ Sub l r u L a p) → ∀ d, T' d a = T d a := by
  refine h.tree_ind (p := fun a => (a ≠ 0 → ¬ Sub l r u L a x ∧ ¬ Sub l r u L a p) → ∀ d, T' d a = T d a) ?_ ?_
  · intro _ d; rw [t.zero, t'.zero]
  · intro a ha il ir hs d
    obtain ⟨n1, n2⟩ := hs (by have := ha.1; omega)
    have ax : a ≠ x := fun e => n1 ⟨0, e.symm⟩
    have ap : a ≠ p := fun e => n2 ⟨0, e.symm⟩
    have ag : Kid l r u p → a ≠ g := fun k e => by
      subst e
      refine n2 ⟨1, F.vp, k, ?_⟩
      exact R.hg
    rw [t.node d a ha, t'.node d a ha, R.l_o a ap (fun hh => ag hh.1 hh.2.2), R.r_o a ax (fun hh => ag hh.1 hh.2.2)]
    rw [il (fun hl => ⟨fun k => n1 (sub_of_l h ha hl k), fun k => n2 (sub_of_l h ha hl k)⟩), ir (fun hl => ⟨fun k => n1 (sub_of_r h ha hl k), fun k => n2 (sub_of_r h ha hl k)⟩)]

/-- the depth grows with the root's -/
theorem Trav.shift (h : OK l r u L) {T : Nat → Nat → List (Nat × Nat)} (t : Trav l r L T) : ∀ a, a < L → ∀ d, T (d + 1) a = (T d a).map fun y => (y.1, y.2 + 1) := by
  refine h.tree_ind (p := fun a => ∀ d, T (d + 1) a = (T d a).map fun y => (y.1, y.2 + 1)) ?_ ?_
  · intro d; rw [t.zero, t.zero]; rfl
  · intro a ha il ir d
    rw [t.node (d + 1) a ha, t.node d a ha, il (d + 1), ir (d + 1)]
    simp

theorem map_id_of {α : Type} {f : α → α} {xs : List α} (h : ∀ y ∈ xs, f y = y) : xs.map f = xs := by
  induction xs with
  | nil => rfl
  | cons a xs ih => rw [List.map_cons, h a (by simp), ih (fun y hy => h y (by simp [hy]))]

theorem map_congr_of {α β : Type} {f g : α → β} {xs : List α} (h : ∀ y ∈ xs, f y = g y) : xs.map f = xs.map g := by
  induction xs with
  | nil => rfl
  | cons a xs ih => rw [List.map_cons, List.map_cons, h a (by simp), ih (fun y hy => h y (by simp [hy]))]

/-- what the rotation does to a depth: 'f' lowers x and its outer tree by one, raises p and its other tree by one, leaves the rest -/
structure Moves (l r u : Nat → Nat) (L x p : Nat) (f : Nat × Nat → Nat × Nat) : Prop where
  down : ∀ v e, (v = x ∨ (l x ≠ 0 ∧ Sub l r u L (l x) v)) → f (v, e + 1) = (v, e)
  rise : ∀ v e, (v = p ∨ (r p ≠ 0 ∧ Sub l r u L (r p) v)) → f (v, e) = (v, e + 1)
  keep : ∀ v e, ¬ (v = x ∨ (l x ≠ 0 ∧ Sub l r u L (l x) v)) → ¬ (v = p ∨ (r p ≠ 0 ∧ Sub l r u L (r p) v)) → f (v, e) = (v, e)

theorem Trav.sub (h : OK l r u L) {T : Nat → Nat → List (Nat × Nat)} (t : Trav l r L T) {a d v e : Nat} (ha : a < L) (hm : (v, e) ∈ T d a) : a ≠ 0 ∧ Sub l r u L a v := by
  obtain ⟨_, m, _, k⟩ := t.mem h a ha d v e hm
  refine ⟨?_, m, k⟩
  intro e0
  rw [e0, t.zero] at hm
  cases hm

theorem RotL.at_p (h : OK l r u L) (R : RotL l r u l' r' u' x p g) (F : Facts l r u L x p g) {T T' : Nat → Nat → List (Nat × Nat)} (t : Trav l r L T) (t' : Trav l' r' L T') {f : Nat × Nat → Nat × Nat} (M : Moves l r u L x p f) (d : Nat) :
    T' d x = (T d p).map f := by
  have hx0 := F.vx.1
  have hp0 := F.vp.1
  have lp0 : l p ≠ 0 := by rw [R.hx]; omega
  have subx : ∀ v, Sub l r u L x v → Sub l r u L (l p) v := fun v k => by rw [R.hx]; exact k
  -- x and p lie in none of the three trees
  have A1 : l x ≠ 0 → ¬ Sub l r u L (l x) x ∧ ¬ Sub l r u L (l x) p := fun hl => ⟨sub_l_self h F.vx hl, fun k => sub_l_self h F.vp lp0 (subx p (sub_of_l h F.vx hl k))⟩
  have A2 : r x ≠ 0 → ¬ Sub l r u L (r x) x ∧ ¬ Sub l r u L (r x) p := fun hl => ⟨sub_r_self h F.vx hl, fun k => sub_l_self h F.vp lp0 (subx p (sub_of_r h F.vx hl k))⟩
  have A3 : r p ≠ 0 → ¬ Sub l r u L (r p) x ∧ ¬ Sub l r u L (r p) p := fun hl => ⟨fun k => sub_apart h F.vp lp0 hl (subx x ⟨0, rfl⟩) k, sub_r_self h F.vp hl⟩
  have S1 := R.same h F t t' (l x) (h.bl x F.vx) A1
  have S2 := R.same h F t t' (r x) (h.br x F.vx) A2
  have S3 := R.same h F t t' (r p) (h.br p F.vp) A3
  have e1 : l' x = l x := R.l_o x F.xp (fun hh => F.gx hh.2.2.symm)
  have e2 : r' p = r p := R.r_o p F.xp.symm (fun hh => F.gp hh.2.2.symm)
  rw [t'.node d x F.vx, e1, R.r_x, t'.node (d + 1) p F.vp, R.l_p, e2, S1, S2, S3]
  rw [t.node d p F.vp, R.hx, t.node (d + 1) x F.vx]
  simp only [List.map_append, List.map_cons, List.append_assoc, List.cons_append]
  have m1 : (T (d + 1 + 1) (l x)).map f = T (d + 1) (l x) := by
    rw [t.shift h (l x) (h.bl x F.vx) (d + 1), List.map_map]
    refine map_id_of fun y hy => ?_
    obtain ⟨v, e⟩ := y
    exact M.down v e (.inr (t.sub h (h.bl x F.vx) hy))
  have m2 : (T (d + 1 + 1) (r x)).map f = T (d + 1 + 1) (r x) := by
    refine map_id_of fun y hy => ?_
    obtain ⟨v, e⟩ := y
    obtain ⟨hc, hs⟩ := t.sub h (h.br x F.vx) hy
    refine M.keep v e ?_ ?_
    · rintro (e0 | ⟨hl, k⟩)
      · subst e0; exact (A2 hc).1 hs
      · exact sub_apart h F.vx hl hc k hs
    · rintro (e0 | ⟨hl, k⟩)
      · subst e0; exact (A2 hc).2 hs
      · exact sub_apart h F.vp lp0 hl (subx v (sub_of_r h F.vx hc hs)) k
  have m3 : (T (d + 1) (r p)).map f = T (d + 1 + 1) (r p) := by
    rw [t.shift h (r p) (h.br p F.vp) (d + 1)]
    refine map_congr_of fun y hy => ?_
    obtain ⟨v, e⟩ := y
    exact M.rise v e (.inr (t.sub h (h.br p F.vp) hy))
  rw [m1, m2, m3, M.down x d (.inl rfl), M.rise p d (.inl rfl)]

theorem RotL.above (h : OK l r u L) (R : RotL l r u l' r' u' x p g) (F : Facts l r u L x p g) {T T' : Nat → Nat → List (Nat × Nat)} (t : Trav l r L T) (t' : Trav l' r' L T') {f : Nat × Nat → Nat × Nat} (M : Moves l r u L x p f) :
    ∀ a, a < L → (a ≠ 0 → ¬ Sub l r u L p a) → ∀ d, T' d a = (T d a).map f := by
  have hx0 := F.vx.1
  have hp0 := F.vp.1
  have lp0 : l p ≠ 0 := by rw [R.hx]; omega
  have hkx : Anc l r u L 1 x p := by have := h.anc_l F.vp lp0; rwa [R.hx] at this
  refine h.tree_ind (p := fun a => (a ≠ 0 → ¬ Sub l r u L p a) → ∀ d, T' d a = (T d a).map f) ?_ ?_
  · intro _ d; rw [t.zero, t'.zero]; rfl
  · intro a ha il ir hs d
    have ns := hs (by have := ha.1; omega)
    have ap : a ≠ p := fun e => ns ⟨0, e⟩
    have ax : a ≠ x := fun e => ns ⟨1, by subst e; exact hkx⟩
    have fa : f (a, d) = (a, d) := by
      refine M.keep a d ?_ ?_
      · rintro (e | ⟨hl, k⟩)
        · exact ax e
        · obtain ⟨m, k⟩ := sub_of_l h F.vx hl k
          exact ns ⟨_, k.trans hkx⟩
      · rintro (e | ⟨hl, k⟩)
        · exact ap e
        · exact ns (sub_of_r h F.vp hl k)
    -- a kid of a that is not p lies outside p's tree
    have kid : ∀ c, c ≠ p → c ≠ 0 → Anc l r u L 1 c a → ¬ Sub l r u L p c := by
      rintro c cp c0 k1 ⟨m, k⟩
      match m, k with
      | 0, k => exact cp k
      | m + 1, k =>
        refine ns ⟨m, ?_⟩
        rw [show m + 1 = 1 + m by omega] at k
        exact k1.det k
    rw [t.node d a ha, t'.node d a ha, List.map_append, List.map_cons, fa]
    have left : T' (d + 1) (l' a) = (T (d + 1) (l a)).map f := by
      by_cases h2 : Kid l r u p ∧ l g = p ∧ a = g
      · obtain ⟨k, e, rfl⟩ := h2
        rw [R.l_g k e, e]
        exact R.at_p h F t t' M (d + 1)
      · rw [R.l_o a ap h2]
        refine il (fun hl => kid (l a) ?_ hl (h.anc_l ha hl)) (d + 1)
        intro e
        have hu := h.ul a ha hl
        rw [e, R.hg] at hu
        subst hu
        exact h2 ⟨⟨by rw [R.hg]; have := ha.1; omega, .inl (by rw [R.hg]; exact e)⟩, e, rfl⟩
    have right : T' (d + 1) (r' a) = (T (d + 1) (r a)).map f := by
      by_cases h2 : Kid l r u p ∧ l g ≠ p ∧ a = g
      · obtain ⟨k, e, rfl⟩ := h2
        have e2 : r a = p := by
          rcases k.2 with k1 | k1
          · rw [R.hg] at k1; exact absurd k1 e
          · rw [R.hg] at k1; exact k1
        rw [R.r_g k e, e2]
        exact R.at_p h F t t' M (d + 1)
      · rw [R.r_o a ax h2]
        refine ir (fun hl => kid (r a) ?_ hl (h.anc_r ha hl)) (d + 1)
        intro e
        have hu := h.ur a ha hl
        rw [e, R.hg] at hu
        subst hu
        refine h2 ⟨⟨by rw [R.hg]; have := ha.1; omega, .inr (by rw [R.hg]; exact e)⟩, fun e2 => ?_, rfl⟩
        exact h.ne g ha (by rw [e2]; omega) (by rw [e2, e])
    rw [left, right]

/-- THE ROTATION's LAW: each head's in-order stays, but for the depths; where p headed its tree x does now -/
theorem RotL.law (h : OK l r u L) (R : RotL l r u l' r' u' x p g) (F : Facts l r u L x p g) {T T' : Nat → Nat → List (Nat × Nat)} (t : Trav l r L T) (t' : Trav l' r' L T') {f : Nat × Nat → Nat × Nat} (M : Moves l r u L x p f)
    {a : Nat} (ha : Vx L a) (hk : ¬ Kid l r u a) : ∃ a', Vx L a' ∧ ¬ Kid l' r' u' a' ∧ u' a' = u a ∧ T' 0 a' = (T 0 a).map f := by
  obtain ⟨h1, h2⟩ := R.head h F ha hk
  by_cases e : a = p
  · subst e
    exact ⟨x, F.vx, (h1 rfl).1, (h1 rfl).2, R.at_p h F t t' M 0⟩
  · refine ⟨a, ha, (h2 e).1, (h2 e).2, R.above h F t t' M a ha.2 (fun _ => ?_) 0⟩
    rintro ⟨m, k⟩
    match m, k with
    | 0, k => exact e k
    | m + 1, k => exact hk k.2.1
end

/-! ### the mirror -/
theorem OK.mirror {l r u : Nat → Nat} {L : Nat} (h : OK l r u L) : OK r l u L :=
  ⟨h.br, h.bl, h.bu, h.ur, h.ul, fun v hv hr e => by
    by_cases hl : l v = 0
    · rw [hl] at e; exact hr e
    · exact h.ne v hv hl e.symm, h.acy⟩

theorem kid_mirror {l r u : Nat → Nat} {v : Nat} : Kid r l u v ↔ Kid l r u v := by
  unfold Kid
  constructor
  · rintro ⟨h1, h2⟩; exact ⟨h1, h2.symm⟩
  · rintro ⟨h1, h2⟩; exact ⟨h1, h2.symm⟩

theorem anc_mirror {l r u : Nat → Nat} {L : Nat} : ∀ {m v a}, Anc r l u L m v a → Anc l r u L m v a
  | 0, _, _, h => h
  | _ + 1, _, _, ⟨h1, h2, h3⟩ => ⟨h1, kid_mirror.1 h2, anc_mirror h3⟩

theorem sub_mirror {l r u : Nat → Nat} {L a v : Nat} : Sub r l u L a v ↔ Sub l r u L a v :=
  ⟨fun ⟨m, k⟩ => ⟨m, anc_mirror k⟩, fun ⟨m, k⟩ => ⟨m, anc_mirror k⟩⟩

theorem Trav.mirror {l r : Nat → Nat} {L : Nat} {T : Nat → Nat → List (Nat × Nat)} (t : Trav l r L T) : Trav r l L (fun d v => (T d v).reverse) :=
  ⟨fun d => by simp [t.zero], fun d v hv => by simp [t.node d v hv]⟩

/-- the law for a right kid -/
theorem RotL.law' {l r u l' r' u' : Nat → Nat} {L x p g : Nat} (h : OK l r u L) (R : RotL r l u r' l' u' x p g) (F : Facts r l u L x p g) {T T' : Nat → Nat → List (Nat × Nat)} (t : Trav l r L T) (t' : Trav l' r' L T') {f : Nat × Nat → Nat × Nat}
    (M : Moves r l u L x p f) {a : Nat} (ha : Vx L a) (hk : ¬ Kid l r u a) : ∃ a', Vx L a' ∧ ¬ Kid l' r' u' a' ∧ u' a' = u a ∧ T' 0 a' = (T 0 a).map f := by
  obtain ⟨a', h1, h2, h3, h4⟩ := R.law h.mirror F t.mirror t'.mirror M ha (fun k => hk (kid_mirror.1 k))
  refine ⟨a', h1, fun k => h2 (kid_mirror.2 k), h3, ?_⟩
  have := congrArg List.reverse h4
  simpa using this
end Go.Proofs.Qxb6602963a
