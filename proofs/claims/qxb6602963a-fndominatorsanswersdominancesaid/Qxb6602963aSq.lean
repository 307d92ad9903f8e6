import Derived.Test.Qxb6602963aNum
namespace Go.Proofs.Qxb6602963a
set_option linter.unusedVariables false

/-- the way up from v by anc -/
def cs (anc : Nat → Int) (v : Nat) : Nat → Nat
  | 0 => v
  | i + 1 => (anc (cs anc v i)).toNat

section
variable {m L : Nat} {par sm lab : Nat → Nat} {E : Nat → Nat → Prop} {anc : Nat → Int}

/-- the first i of the way are linked -/
structure Wy (m L : Nat) (anc : Nat → Int) (v i : Nat) : Prop where
  lo : ∀ t, t ≤ i → L ≤ cs anc v t ∧ cs anc v t < m
  dec : ∀ t, t < i → cs anc v (t + 1) < cs anc v t
  lnk : ∀ t, t < i → anc (cs anc v t) = (cs anc v (t + 1) : Int)

theorem Wy.start {v : Nat} (h : L ≤ v) (hm : v < m) : Wy m L anc v 0 := by
  refine ⟨fun t ht => ?_, fun t ht => by omega, fun t ht => by omega⟩
  obtain rfl : t = 0 := by omega
  exact ⟨h, hm⟩

theorem Wy.step (F : Forest m L par sm anc lab) {v i : Nat} (h : Wy m L anc v i) {a : Nat} (ha : anc (cs anc v i) = (a : Int)) (haL : L ≤ a) : Wy m L anc v (i + 1) ∧ cs anc v (i + 1) = a ∧ a < cs anc v i := by
  obtain ⟨h1, h2⟩ := h.lo i (Nat.le_refl _)
  obtain ⟨a', e, hlt, _⟩ := F.high _ h1 h2
  have ea : cs anc v (i + 1) = a := by show (anc (cs anc v i)).toNat = a; rw [ha]; omega
  have : a < cs anc v i := by rw [e] at ha; omega
  refine ⟨⟨fun t ht => ?_, fun t ht => ?_, fun t ht => ?_⟩, ea, this⟩
  · by_cases c : t = i + 1
    · subst c; rw [ea]; exact ⟨haL, by omega⟩
    · exact h.lo t (by omega)
  · by_cases c : t = i
    · subst c; rw [ea]; exact this
    · exact h.dec t (by omega)
  · by_cases c : t = i
    · subst c; rw [ea]; exact ha
    · exact h.lnk t (by omega)

theorem Wy.lt {v i : Nat} (h : Wy m L anc v i) : ∀ a b, a < b → b ≤ i → cs anc v b < cs anc v a := by
  intro a b hab
  induction hab with
  | refl => intro hb; exact h.dec a (by omega)
  | step _ ih => intro hb; exact Nat.lt_trans (h.dec _ (by omega)) (ih (by omega))

/-- the compression: the way's places from k on lead to the root r -/
structure Sq (m L : Nat) (par sm : Nat → Nat) (c : Nat → Nat) (n r k : Nat) (anc : Nat → Int) (lab : Nat → Nat) : Prop where
  kn : k ≤ n
  forest : Forest m L par sm anc lab
  lo : ∀ t, t ≤ n → L ≤ c t ∧ c t < m
  lt : ∀ a b, a < b → b ≤ n → c b < c a
  lnk : ∀ t, t < k → anc (c t) = (c (t + 1) : Int)
  root : anc (c k) = (r : Int)
  rL : r < L

theorem Sq.start (F : Forest m L par sm anc lab) {v n r : Nat} (h : Wy m L anc v n) (hr : anc (cs anc v n) = (r : Int)) (hrL : r < L) : Sq m L par sm (cs anc v) n r n anc lab :=
  ⟨Nat.le_refl _, F, h.lo, h.lt, h.lnk, hr, hrL⟩

theorem Sq.step (T : Tree m par E) {c : Nat → Nat} {n r k : Nat} (h : Sq m L par sm c n r (k + 1) anc lab) :
    anc (c k) = (c (k + 1) : Int) ∧ Sq m L par sm c n r k (updN anc (c k) (r : Int)) (updN lab (c k) (if sm (lab (c (k + 1))) < sm (lab (c k)) then lab (c (k + 1)) else lab (c k))) := by
  have hl := h.lnk k (by omega)
  have hkn := h.kn
  have hF := h.forest.squeeze T (h.lo k (by omega)).1 (h.lo k (by omega)).2 hl (h.lo (k + 1) hkn).1 h.root
  refine ⟨hl, by omega, ?_, h.lo, h.lt, fun t ht => ?_, updN_same _ _ _, h.rL⟩
  · exact hF
  · rw [updN_ne _ _ (by have := h.lt t k ht (by omega); omega)]; exact h.lnk t (by omega)

theorem Sq.done (T : Tree m par E) {c : Nat → Nat} {n r : Nat} (h : Sq m L par sm c n r 0 anc lab) : EvalOk L par sm (c 0) (lab (c 0)) :=
  h.forest.top T (h.lo 0 (by omega)).1 (h.lo 0 (by omega)).2 h.root h.rL
end
end Go.Proofs.Qxb6602963a
