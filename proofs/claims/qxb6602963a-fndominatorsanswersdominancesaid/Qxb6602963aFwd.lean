import Derived.Test.Qxb6602963aNum
namespace Go.Proofs.Qxb6602963a
set_option linter.unusedVariables false

/-- how many of the first K are below u ; are u -/
def cl (pr : Nat → Nat) (u : Nat) : Nat → Nat
  | 0 => 0
  | K + 1 => cl pr u K + if pr K < u then 1 else 0
def ce (pr : Nat → Nat) (u : Nat) : Nat → Nat
  | 0 => 0
  | K + 1 => ce pr u K + if pr K = u then 1 else 0

section
variable {pr : Nat → Nat}
theorem cl_succ (u : Nat) : ∀ K, cl pr (u + 1) K = cl pr u K + ce pr u K := by
  intro K
  induction K with
  | zero => rfl
  | succ K ih =>
    simp only [cl, ce]
    rw [ih]
    by_cases h1 : pr K < u
    · rw [if_pos h1, if_pos (show pr K < u + 1 by omega), if_neg (show ¬ pr K = u by omega)]; omega
    · by_cases h2 : pr K = u
      · rw [if_neg h1, if_pos (show pr K < u + 1 by omega), if_pos h2]; omega
      · rw [if_neg h1, if_neg (show ¬ pr K < u + 1 by omega), if_neg h2]; omega
theorem cl_zero : ∀ K, cl pr 0 K = 0 := by
  intro K
  induction K with
  | zero => rfl
  | succ K ih => simp only [cl]; rw [ih, if_neg (by omega)]
theorem cl_mono {u v : Nat} (h : u ≤ v) (K : Nat) : cl pr u K ≤ cl pr v K := by
  induction h with
  | refl => exact Nat.le_refl _
  | step _ ih => rw [cl_succ]; omega
theorem cl_le : ∀ u K, cl pr u K ≤ K := by
  intro u K
  induction K with
  | zero => exact Nat.le_refl _
  | succ K ih => simp only [cl]; split <;> omega
theorem cl_all {n K : Nat} (h : ∀ k, k < K → pr k < n) : cl pr n K = K := by
  induction K with
  | zero => rfl
  | succ K ih => simp only [cl]; rw [ih (fun k hk => h k (by omega)), if_pos (h K (by omega))]
theorem ce_mono (u : Nat) {k K : Nat} (h : k ≤ K) : ce pr u k ≤ ce pr u K := by
  induction h with
  | refl => exact Nat.le_refl _
  | step _ ih => simp only [ce]; omega
theorem ce_lt (u : Nat) {k K : Nat} (h : k < K) (hk : pr k = u) : ce pr u k < ce pr u K := by
  have : ce pr u (k + 1) ≤ ce pr u K := ce_mono u h
  simp only [ce] at this
  rw [if_pos hk] at this
  omega
theorem ce_hit (u : Nat) : ∀ K y, y < ce pr u K → ∃ k, k < K ∧ pr k = u ∧ ce pr u k = y := by
  intro K
  induction K with
  | zero => intro y hy; simp [ce] at hy
  | succ K ih =>
    intro y hy
    simp only [ce] at hy
    by_cases c : y < ce pr u K
    · obtain ⟨k, h1, h2⟩ := ih y c
      exact ⟨k, by omega, h2⟩
    · by_cases e : pr K = u
      · rw [if_pos e] at hy
        exact ⟨K, by omega, e, by omega⟩
      · rw [if_neg e] at hy; omega

/-- where the k-th edge goes -/
def pos (pr : Nat → Nat) (L k : Nat) : Nat := cl pr (pr k) L + ce pr (pr k) k

theorem pos_rng {L k : Nat} (h : k < L) : cl pr (pr k) L ≤ pos pr L k ∧ pos pr L k < cl pr (pr k + 1) L := by
  have := ce_lt (pr := pr) (pr k) h rfl
  rw [cl_succ]
  unfold pos
  omega
theorem pos_ne {L k k' : Nat} (h : k < k') (h' : k' < L) : pos pr L k ≠ pos pr L k' := by
  have r1 := pos_rng (pr := pr) (show k < L by omega)
  have r2 := pos_rng (pr := pr) h'
  rcases Nat.lt_trichotomy (pr k) (pr k') with c | c | c
  · have := cl_mono (pr := pr) (show pr k + 1 ≤ pr k' by omega) L; omega
  · have := ce_lt (pr := pr) (pr k) h rfl
    unfold pos
    rw [c] at this ⊢
    omega
  · have := cl_mono (pr := pr) (show pr k' + 1 ≤ pr k by omega) L; omega

/-- the edges, turned round -/
def Fits (n : Nat) (pf pr : Nat → Nat) (u v : Nat) : Prop := ∃ k, pf v ≤ k ∧ k < pf (v + 1) ∧ pr k = u

structure Well (n L : Nat) (pf pr : Nat → Nat) : Prop where
  z : pf 0 = 0
  t : pf n = L
  mono : ∀ v, v < n → pf v ≤ pf (v + 1)
  lt : ∀ k, k < L → pr k < n

theorem Well.le {n L : Nat} {pf : Nat → Nat} (W : Well n L pf pr) : ∀ a b, a ≤ b → b ≤ n → pf a ≤ pf b := by
  intro a b hab
  induction hab with
  | refl => intro _; exact Nat.le_refl _
  | step h ih => intro hb; have h1 := ih (by omega); have h2 := W.mono _ (show _ < n from hb); exact Nat.le_trans h1 h2

theorem Well.one {n L : Nat} {pf : Nat → Nat} (W : Well n L pf pr) {k v v' : Nat} (hv : v < n) (hv' : v' < n) (h1 : pf v ≤ k) (h2 : k < pf (v + 1)) (h3 : pf v' ≤ k) (h4 : k < pf (v' + 1)) : v = v' := by
  rcases Nat.lt_trichotomy v v' with c | c | c
  · have := W.le (v + 1) v' (by omega) (by omega); omega
  · exact c
  · have := W.le (v' + 1) v (by omega) (by omega); omega

theorem Well.own {n L : Nat} {pf : Nat → Nat} (W : Well n L pf pr) {k : Nat} (hk : k < L) : ∃ v, v < n ∧ pf v ≤ k ∧ k < pf (v + 1) := by
  have key : ∀ j, j ≤ n → k < pf j → ∃ v, v < j ∧ pf v ≤ k ∧ k < pf (v + 1) := by
    intro j
    induction j with
    | zero => intro _ h; rw [W.z] at h; omega
    | succ j ih =>
      intro hj h
      by_cases c : pf j ≤ k
      · exact ⟨j, by omega, c, h⟩
      · obtain ⟨v, h1, h2⟩ := ih (by omega) (by omega)
        exact ⟨v, by omega, h2⟩
  exact key n (Nat.le_refl _) (by rw [W.t]; exact hk)

/-- what the filling loop keeps: K edges are laid -/
structure Fill (n L : Nat) (pf pr : Nat → Nat) (K : Nat) (at_ sc : Nat → Nat) : Prop where
  at_ : ∀ u, u < n → at_ u = cl pr u L + ce pr u K
  sc : ∀ k v, k < K → v < n → pf v ≤ k → k < pf (v + 1) → sc (pos pr L k) = v

theorem Fill.start {n L : Nat} {pf : Nat → Nat} (at_ sc : Nat → Nat) (h : ∀ u, u < n → at_ u = cl pr u L) : Fill n L pf pr 0 at_ sc := ⟨fun u hu => by rw [h u hu]; rfl, fun k v hk => by omega⟩

theorem Fill.step {n L K v : Nat} {pf at_ sc : Nat → Nat} (W : Well n L pf pr) (h : Fill n L pf pr K at_ sc) (hv : v < n) (h1 : pf v ≤ K) (h2 : K < pf (v + 1)) (hK : K < L) :
    at_ (pr K) = pos pr L K ∧ pos pr L K < L ∧ Fill n L pf pr (K + 1) (updN at_ (pr K) (at_ (pr K) + 1)) (updN sc (at_ (pr K)) v) := by
  have hu := W.lt K hK
  have e : at_ (pr K) = pos pr L K := h.at_ _ hu
  have hp : pos pr L K < L := by have := (pos_rng (pr := pr) hK).2; have := cl_le (pr := pr) (pr K + 1) L; omega
  refine ⟨e, hp, fun u hu' => ?_, fun k v' hk hv' h3 h4 => ?_⟩
  · simp only [ce]
    by_cases c : u = pr K
    · subst c; rw [updN_same, if_pos rfl, h.at_ _ hu]; omega
    · rw [updN_ne _ _ c, if_neg (fun e => c e.symm), h.at_ u hu']; rfl
  · rw [e]
    by_cases c : k = K
    · subst c; rw [updN_same]; exact W.one hv hv' h1 h2 h3 h4
    · rw [updN_ne _ _ (pos_ne (by omega) hK)]; exact h.sc k v' (by omega) hv' h3 h4

theorem Fill.over {n L : Nat} {pf at_ sc sf : Nat → Nat} (W : Well n L pf pr) (h : Fill n L pf pr L at_ sc) (hsf : ∀ u, u ≤ n → sf u = cl pr u L) :
    Gr n L sf sc ∧ (0 < n → ∀ u v, u < n → v < n → (Go1 sf sc u v ↔ Fits n pf pr u v)) ∧ ∀ k, k < L → sc k < n := by
  -- every place is someone's
  have hit : ∀ u x, u < n → cl pr u L ≤ x → x < cl pr (u + 1) L → ∃ k, k < L ∧ pr k = u ∧ pos pr L k = x := fun u x hu h1 h2 => by
    rw [cl_succ] at h2
    obtain ⟨k, h3, h4, h5⟩ := ce_hit (pr := pr) u L (x - cl pr u L) (by omega)
    refine ⟨k, h3, h4, ?_⟩
    unfold pos
    rw [h4, h5]; omega
  have lt : ∀ x, x < L → sc x < n := fun x hx => by
    have key : ∀ j, j ≤ n → x < cl pr j L → ∃ u, u < j ∧ cl pr u L ≤ x ∧ x < cl pr (u + 1) L := by
      intro j
      induction j with
      | zero => intro _ h; rw [cl_zero] at h; omega
      | succ j ih =>
        intro hj h
        by_cases c : cl pr j L ≤ x
        · exact ⟨j, by omega, c, h⟩
        · obtain ⟨v, h1, h2⟩ := ih (by omega) (by omega)
          exact ⟨v, by omega, h2⟩
    obtain ⟨u, hu, h1, h2⟩ := key n (Nat.le_refl _) (by rw [cl_all W.lt]; exact hx)
    obtain ⟨k, h3, h4, h5⟩ := hit u x hu h1 h2
    obtain ⟨v, h6, h7, h8⟩ := W.own h3
    rw [← h5, h.sc k v h3 h6 h7 h8]
    exact h6
  refine ⟨⟨fun v hv => by rw [hsf v (by omega), hsf (v + 1) (by omega)]; exact cl_mono (by omega) L, fun v hv => by rw [hsf v hv]; exact cl_le _ _, lt⟩, fun hn u v hu hv => ⟨?_, ?_⟩, lt⟩
  · rintro ⟨x, h1, h2, h3⟩
    rw [hsf u (by omega)] at h1
    rw [hsf (u + 1) (by omega)] at h2
    obtain ⟨k, h4, h5, h6⟩ := hit u x hu h1 h2
    obtain ⟨v', h7, h8, h9⟩ := W.own h4
    have := h.sc k v' h4 h7 h8 h9
    rw [h6, h3] at this
    subst this
    exact ⟨k, h8, h9, h5⟩
  · rintro ⟨k, h1, h2, rfl⟩
    have hk : k < L := by have := W.le (v + 1) n (by omega) (Nat.le_refl _); rw [W.t] at this; omega
    have r := pos_rng (pr := pr) hk
    exact ⟨pos pr L k, by rw [hsf _ (by omega)]; exact r.1, by rw [hsf _ (by omega)]; exact r.2, h.sc k v hk hv h1 h2⟩
end
end Go.Proofs.Qxb6602963a
