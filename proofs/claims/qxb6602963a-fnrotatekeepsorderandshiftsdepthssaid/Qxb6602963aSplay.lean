import Derived.Test.Qxb6602963aMark
namespace Go.Proofs.Qxb6602963a
open Go.RowKit
set_option linter.unusedVariables false

theorem headB_iff {L : Nat} {zl zr zu : Nat → Int} (hr : Rng L zl zr zu L) {v : Nat} (hv : Vx L v) : headB zl zr zu v = true ↔ ¬ Kid (nat zl) (nat zr) (nat zu) v := by
  have h1 := hr v hv.1 hv.2
  simp only [headB, Kid, nat, Bool.or_eq_true, beq_iff_eq, Bool.and_eq_true, bne_iff_ne, ne_eq]
  by_cases hz : zu v = 0
  · simp [hz]
  · have h2 : 0 < (zu v).toNat := by omega
    have h3 := hr (zu v).toNat h2 (by omega)
    have e1 : (zl (zu v).toNat).toNat = v ↔ zl (zu v).toNat = v := by omega
    have e2 : (zr (zu v).toNat).toNat = v ↔ zr (zu v).toNat = v := by omega
    have e3 : ¬ (zu v).toNat = 0 := by omega
    rw [e1, e2]
    constructor
    · rintro (h | ⟨h4, h5⟩)
      · exact absurd h hz
      · rintro ⟨_, h6 | h6⟩
        · exact h4 h6
        · exact h5 h6
    · intro h
      right
      exact ⟨fun h4 => h ⟨e3, .inl h4⟩, fun h4 => h ⟨e3, .inr h4⟩⟩

/-- the stack's part of what is still to come -/
def stk (T : Nat → Nat → List (Nat × Nat)) (r : Nat → Nat) (sn sd : Nat → Nat) : Nat → List (Nat × Nat)
  | 0 => []
  | j + 1 => (sn j, sd j) :: T (sd j + 1) (r (sn j)) ++ stk T r sn sd j

theorem stk_congr {T : Nat → Nat → List (Nat × Nat)} {r : Nat → Nat} {sn sd sn' sd' : Nat → Nat} {k : Nat} (h : ∀ j, j < k → sn' j = sn j ∧ sd' j = sd j) : stk T r sn' sd' k = stk T r sn sd k := by
  induction k with
  | zero => rfl
  | succ k ih => simp only [stk]; rw [ih (fun j hj => h j (by omega)), (h k (by omega)).1, (h k (by omega)).2]

theorem stk_push {T : Nat → Nat → List (Nat × Nat)} {r : Nat → Nat} {sn sd : Nat → Nat} {k c d : Nat} : stk T r (upd sn k c) (upd sd k d) (k + 1) = (c, d) :: T (d + 1) (r c) ++ stk T r sn sd k := by
  simp only [stk]
  rw [stk_congr (fun j hj => ⟨upd_other _ _ _ _ (by omega), upd_other _ _ _ _ (by omega)⟩), upd_same, upd_same]

theorem stk_len {T : Nat → Nat → List (Nat × Nat)} {r : Nat → Nat} {sn sd : Nat → Nat} {k : Nat} : k ≤ (stk T r sn sd k).length := by
  induction k with
  | zero => simp
  | succ k ih => simp only [stk, List.cons_append, List.length_cons, List.length_append]; omega

def lead (xs : List (Nat × Nat)) : Nat := (xs.headD (0, 0)).1

/-- the first k of a tree's vertices have their four numbers -/
def Wrote (xs : List (Nat × Nat)) (q : Int) (F P D Q : Nat → Int) (k : Nat) : Prop :=
  ∀ i v e, i < k → xs[i]? = some (v, e) → F v = lead xs ∧ P v = i ∧ D v = e ∧ Q v = q

/-- .. and so have all the trees of the heads below h -/
def Done (l r u : Nat → Nat) (L : Nat) (T : Nat → Nat → List (Nat × Nat)) (zu F P D Q : Nat → Int) (h : Nat) : Prop :=
  ∀ a, Vx L a → a < h → ¬ Kid l r u a → Wrote (T 0 a) (zu a) F P D Q (T 0 a).length

section
variable {l r u : Nat → Nat} {L : Nat} {T : Nat → Nat → List (Nat × Nat)}

/-- where the walk stands in the tree of h: k vertices are done -/
structure At (l r u : Nat → Nat) (L : Nat) (T : Nat → Nat → List (Nat × Nat)) (h k c d top : Nat) (sn sd : Nat → Nat) : Prop where
  rest : (T 0 h).drop k = T d c ++ stk T r sn sd top
  cL : c < L
  dL : d ≤ L
  vx : ∀ j, j < top → Vx L (sn j) ∧ sd j < L
  kl : k ≤ (T 0 h).length

theorem at_start (h : Nat) (hh : Vx L h) (sn sd : Nat → Nat) : At l r u L T h 0 h 0 0 sn sd :=
  ⟨by simp [stk], hh.2, Nat.zero_le _, fun j hj => absurd hj (by omega), Nat.zero_le _⟩

/-- a depth is less than the number of vertices -/
theorem Trav.depth (hk : OK l r u L) (t : Trav l r L T) : ∀ a, a < L → ∀ d v e, (v, e) ∈ T d a → e < d + (T d a).length := by
  refine hk.tree_ind (p := fun a => ∀ d v e, (v, e) ∈ T d a → e < d + (T d a).length) ?_ ?_
  · intro d v e hm; rw [t.zero] at hm; cases hm
  · intro a ha il ir d v e hm
    rw [t.node d a ha] at hm ⊢
    rw [List.mem_append, List.mem_cons] at hm
    simp only [List.length_append, List.length_cons]
    rcases hm with hm | hm | hm
    · have := il _ _ _ hm; omega
    · cases hm; omega
    · have := ir _ _ _ hm; omega

theorem At.top_lt (hk : OK l r u L) (t : Trav l r L T) {h k c d top : Nat} {sn sd : Nat → Nat} (a : At l r u L T h k c d top sn sd) (hh : Vx L h) (hc : c ≠ 0) : top + 1 < L ∧ d + 1 < L := by
  have h1 := congrArg List.length a.rest
  have h2 := vlen hk t hh.2
  have h3 := stk_len (T := T) (r := r) (sn := sn) (sd := sd) (k := top)
  have hcv : Vx L c := ⟨by omega, a.cL⟩
  have hm : (c, d) ∈ (T 0 h).drop k := by rw [a.rest, List.mem_append]; exact .inl (t.self hcv)
  have h4 := t.depth hk h hh.2 0 c d (List.mem_of_mem_drop hm)
  rw [t.node d c hcv] at h1
  simp only [List.length_drop, List.length_append, List.length_cons] at h1
  omega

theorem At.push (hk : OK l r u L) (t : Trav l r L T) {h k c d top : Nat} {sn sd : Nat → Nat} (a : At l r u L T h k c d top sn sd) (hh : Vx L h) (hc : c ≠ 0) :
    At l r u L T h k (l c) (d + 1) (top + 1) (upd sn top c) (upd sd top d) ∧ (T (d + 1) (l c)).length < (T d c).length := by
  have hcv : Vx L c := ⟨by omega, a.cL⟩
  obtain ⟨h1, h2⟩ := a.top_lt hk t hh hc
  refine ⟨⟨?_, hk.bl c hcv, by omega, ?_, a.kl⟩, ?_⟩
  · rw [a.rest, stk_push, t.node d c hcv]; simp
  · intro j hj
    by_cases e : j = top
    · subst e; rw [upd_same, upd_same]; exact ⟨hcv, by omega⟩
    · rw [upd_other _ _ _ _ e, upd_other _ _ _ _ e]; exact a.vx j (by omega)
  · rw [t.node d c hcv]; simp

theorem At.pop (hk : OK l r u L) (t : Trav l r L T) {h k d top : Nat} {sn sd : Nat → Nat} (a : At l r u L T h k 0 d (top + 1) sn sd) (hh : Vx L h) :
    (T 0 h)[k]? = some (sn top, sd top) ∧ At l r u L T h (k + 1) (r (sn top)) (sd top + 1) top sn sd ∧ k + 1 < L := by
  have e := a.rest
  rw [t.zero, List.nil_append] at e
  simp only [stk, List.cons_append] at e
  have h1 : (T 0 h)[k]? = some (sn top, sd top) := by
    have := congrArg (fun xs : List (Nat × Nat) => xs[0]?) e
    simpa using this
  have h2 : k < (T 0 h).length := by
    obtain ⟨h3, _⟩ := List.getElem?_eq_some_iff.1 h1
    exact h3
  have h3 := vlen hk t hh.2
  refine ⟨h1, ⟨?_, hk.br _ (a.vx top (by omega)).1, by have := (a.vx top (by omega)).2; omega, fun j hj => a.vx j (by omega), h2⟩, by omega⟩
  have := congrArg (fun xs : List (Nat × Nat) => xs.drop 1) e
  simpa [List.drop_drop, Nat.add_comm] using this

theorem At.full (t : Trav l r L T) {h k d : Nat} {sn sd : Nat → Nat} (a : At l r u L T h k 0 d 0 sn sd) : k = (T 0 h).length := by
  have e := congrArg List.length a.rest
  rw [t.zero] at e
  simp only [stk, List.append_nil, List.length_drop, List.length_nil] at e
  have := a.kl
  omega

theorem lead_get {xs : List (Nat × Nat)} {y : Nat × Nat} (h : xs[0]? = some y) : lead xs = y.1 := by
  match xs, h with
  | a :: _, h => simp at h; subst h; rfl

/-- one vertex more -/
theorem wrote_step (hk : OK l r u L) (t : Trav l r L T) {h k v e : Nat} (hh : Vx L h) {q : Int} {F P D Q : Nat → Int} (hw : Wrote (T 0 h) q F P D Q k) (hg : (T 0 h)[k]? = some (v, e)) :
    Wrote (T 0 h) q (upd F v (lead (T 0 h))) (upd P v k) (upd D v e) (upd Q v q) (k + 1) := by
  intro i v' e' hi hg'
  by_cases hik : i = k
  · subst hik
    rw [hg] at hg'
    cases hg'
    simp [upd_same]
  · have hne : v' ≠ v := by
      intro e0
      subst e0
      have nd := t.nodup hk h hh.2 0
      have g1 : ((T 0 h).map Prod.fst)[k]? = some v' := by simp [List.getElem?_map, hg]
      have g2 : ((T 0 h).map Prod.fst)[i]? = some v' := by simp [List.getElem?_map, hg']
      obtain ⟨l1, e1⟩ := List.getElem?_eq_some_iff.1 g1
      obtain ⟨l2, e2⟩ := List.getElem?_eq_some_iff.1 g2
      exact hik ((List.getElem_inj nd).1 (e2.trans e1.symm))
    rw [upd_other _ _ _ _ hne, upd_other _ _ _ _ hne, upd_other _ _ _ _ hne, upd_other _ _ _ _ hne]
    exact hw i v' e' (by omega) hg'

/-- the other trees keep their numbers -/
theorem done_step (hk : OK l r u L) (t : Trav l r L T) {h k v e : Nat} (hh : Vx L h) (hd : ¬ Kid l r u h) {zu F P D Q : Nat → Int} (hw : Done l r u L T zu F P D Q h) (hg : (T 0 h)[k]? = some (v, e)) (f p d q : Int) :
    Done l r u L T zu (upd F v f) (upd P v p) (upd D v d) (upd Q v q) h := by
  intro a ha hah hka i v' e' hi hg'
  have hne : v' ≠ v := by
    intro e0
    subst e0
    obtain ⟨_, m1, _, k1⟩ := t.mem hk h hh.2 0 v' e (List.mem_of_getElem? hg)
    obtain ⟨_, m2, _, k2⟩ := t.mem hk a ha.2 0 v' e' (List.mem_of_getElem? hg')
    have := (heads_apart hd hka k1 k2).1
    omega
  rw [upd_other _ _ _ _ hne, upd_other _ _ _ _ hne, upd_other _ _ _ _ hne, upd_other _ _ _ _ hne]
  exact hw a ha hah hka i v' e' hi hg'

theorem done_next {zu F P D Q : Nat → Int} {h : Nat} (hw : Done l r u L T zu F P D Q h) (h1 : ¬ Kid l r u h → Wrote (T 0 h) (zu h) F P D Q (T 0 h).length) : Done l r u L T zu F P D Q (h + 1) := by
  intro a ha hah hka
  by_cases e : a = h
  · subst e; exact h1 hka
  · exact hw a ha (by omega) hka
end
end Go.Proofs.Qxb6602963a
