import Derived.Test.Qxb6602963aNum
namespace Go.Proofs.Qxb6602963a
set_option linter.unusedVariables false

/-- the children of each that are above i, laid as lists -/
structure Kids (m : Nat) (d : Nat → Nat) (i : Nat) (kf kn : Nat → Int) (K : Nat → List Nat) : Prop where
  ll : ∀ p, p < m → LL kn (kf p) (K p)
  mem : ∀ p j, j ∈ K p ↔ (i < j ∧ j < m ∧ d j = p)
  nd : ∀ p, (K p).Nodup

theorem Kids.start {m : Nat} {d : Nat → Nat} (kf kn : Nat → Int) (h : ∀ p, p < m → kf p = -1) : Kids m d (m - 1) kf kn (fun _ => []) :=
  ⟨fun p hp => h p hp, fun p j => ⟨fun h => by simp at h, fun h => by omega⟩, fun p => by simp⟩

theorem Kids.step {m i : Nat} {d : Nat → Nat} {kf kn : Nat → Int} {K : Nat → List Nat} (h : Kids m d i kf kn K) (h0 : 0 < i) (hi : i < m) (hd : d i < m) :
    Kids m d (i - 1) (updN kf (d i) (i : Int)) (updN kn i (kf (d i))) (updN K (d i) (i :: K (d i))) := by
  have hni : ∀ p, i ∉ K p := fun p hp => by have := ((h.mem p i).1 hp).1; omega
  refine ⟨fun p hp => ?_, fun p j => ?_, fun p => ?_⟩
  · by_cases e : p = d i
    · subst e
      rw [updN_same, updN_same]
      refine ⟨rfl, ?_⟩
      rw [updN_same]
      exact (LL.upd _ _ (hni _)).2 (h.ll _ hp)
    · rw [updN_ne _ _ e, updN_ne _ _ e]
      exact (LL.upd _ _ (hni _)).2 (h.ll _ hp)
  · by_cases e : p = d i
    · subst e
      rw [updN_same, List.mem_cons, h.mem]
      constructor
      · rintro (rfl | ⟨h1, h2, h3⟩)
        · exact ⟨by omega, hi, rfl⟩
        · exact ⟨by omega, h2, h3⟩
      · rintro ⟨h1, h2, h3⟩
        by_cases c : j = i
        · exact .inl c
        · exact .inr ⟨by omega, h2, h3⟩
    · rw [updN_ne _ _ e, h.mem]
      constructor
      · rintro ⟨h1, h2, h3⟩; exact ⟨by omega, h2, h3⟩
      · rintro ⟨h1, h2, h3⟩
        have : j ≠ i := by rintro rfl; exact e h3.symm
        exact ⟨by omega, h2, h3⟩
  · by_cases e : p = d i
    · subst e; rw [updN_same]; exact List.nodup_cons.2 ⟨hni _, h.nd _⟩
    · rw [updN_ne _ _ e]; exact h.nd _

/-- a walk's numbers, laid out by the vertices -/
structure Laid (n m : Nat) (V : Nat → Nat) (x : Nat → Int) (xV : Nat → Int) : Prop where
  on : ∀ i, i < m → xV (V i) = x i
  off : ∀ v, v < n → (∀ i, i < m → V i ≠ v) → xV v = -1

theorem Laid.upd {n m : Nat} {V : Nat → Nat} {x xV : Nat → Int} (h : Laid n m V x xV) (inj : ∀ i j, i < m → j < m → V i = V j → i = j) {k : Nat} (hk : k < m) (v : Int) : Laid n m V (updN x k v) (updN xV (V k) v) := by
  refine ⟨fun i hi => ?_, fun v' hv hn => ?_⟩
  · by_cases e : i = k
    · subst e; rw [updN_same, updN_same]
    · rw [updN_ne _ _ e, updN_ne _ _ (fun c => e (inj i k hi hk c))]; exact h.on i hi
  · rw [updN_ne _ _ (Ne.symm (hn k hk))]; exact h.off v' hv hn
end Go.Proofs.Qxb6602963a
