import Derived.Test.Qxb6602963aFwd
namespace Go.Proofs.Qxb6602963a
set_option linter.unusedVariables false

/-- reached from src never entering av -/
inductive RV (G : Nat → Nat → Prop) (src : Nat) (av : Int) : Nat → Prop
  | zero : RV G src av src
  | step {u v : Nat} : RV G src av u → G u v → (v : Int) ≠ av → RV G src av v

section
variable {n src L m : Nat} {sf sc V P : Nat → Nat} {num span : Nat → Int}

/-- the edges between numbers -/
def En (m : Nat) (sf sc V : Nat → Nat) (i j : Nat) : Prop := i < m ∧ j < m ∧ Go1 sf sc (V i) (V j)

theorem Dfs.tree (h : Dfs n src L sf sc m V num span P []) : Tree m P (En m sf sc V) := by
  refine ⟨fun i j he => ⟨he.1, he.2.1⟩, h.plt, fun j h0 hj => ⟨by have := h.plt j h0 hj; omega, hj, (h.sp j h0 hj).2.2⟩, fun i j he hij => ?_, h.ival⟩
  obtain ⟨hi, hj, k, h1, h2, h3⟩ := he
  obtain ⟨z, hz, e, hA⟩ := h.fin i hi (fun x hx => by simp at hx) k h1 h2
  have : z = j := h.inj hz hj (by rw [e, h3])
  subst this
  exact hA (by omega)

theorem Dfs.closed (h : Dfs n src L sf sc m V num span P []) {i : Nat} (hi : i < m) {v : Nat} (hG : Go1 sf sc (V i) v) : ∃ z, z < m ∧ V z = v := by
  obtain ⟨k, h1, h2, h3⟩ := hG
  obtain ⟨z, hz, e, _⟩ := h.fin i hi (fun x hx => by simp at hx) k h1 h2
  exact ⟨z, hz, e.trans h3⟩

theorem Dfs.reach (h : Dfs n src L sf sc m V num span P []) (v : Nat) : RV (Go1 sf sc) src (-1) v ↔ ∃ j, j < m ∧ V j = v := by
  constructor
  · intro k
    induction k with
    | zero => exact ⟨0, h.m1, h.v0⟩
    | step _ hG _ ih =>
      obtain ⟨j, hj, e⟩ := ih
      exact h.closed hj (by rw [e]; exact hG)
  · rintro ⟨j, hj, rfl⟩
    revert hj
    induction j using Nat.strongRecOn with
    | ind j ih =>
      intro hj
      rcases Nat.eq_zero_or_pos j with c | c
      · subst c; rw [h.v0]; exact .zero
      · obtain ⟨h1, _, h2⟩ := h.sp j c hj
        exact .step (ih _ h1 (by omega)) h2 (by omega)

theorem Dfs.avoid (h : Dfs n src L sf sc m V num span P []) {i : Nat} (h0 : 0 < i) (hi : i < m) (v : Nat) : RV (Go1 sf sc) src (V i : Int) v ↔ ∃ j, j < m ∧ V j = v ∧ RA (En m sf sc V) i j := by
  constructor
  · intro k
    induction k with
    | zero => exact ⟨0, h.m1, h.v0, .zero (by omega)⟩
    | step _ hG hne ih =>
      rename_i u v
      obtain ⟨j, hj, rfl, hR⟩ := ih
      obtain ⟨z, hz, rfl⟩ := h.closed hj hG
      exact ⟨z, hz, rfl, .step hR ⟨hj, hz, hG⟩ (fun e => hne (by rw [e]))⟩
  · rintro ⟨j, hj, rfl, hR⟩
    induction hR with
    | zero _ => rw [h.v0]; exact .zero
    | step hr he hne ih =>
      exact .step (ih he.1) he.2.2 (fun e => hne (h.inj he.2.1 hi (by omega)))

theorem RA_none {E : Nat → Nat → Prop} {z : Nat} : ¬ RA E 0 z := by
  intro h
  induction h with
  | zero h => exact h rfl
  | step _ _ _ ih => exact ih
end
end Go.Proofs.Qxb6602963a
