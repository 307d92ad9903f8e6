import Derived.Test.Qxb6602963aLt2
namespace Go.Proofs.Qxb6602963a
set_option linter.unusedVariables false

def updN {α : Type} (f : Nat → α) (i : Nat) (v : α) : Nat → α := fun j => if j = i then v else f j
theorem updN_same {α : Type} (f : Nat → α) (i : Nat) (v : α) : updN f i v i = v := by simp [updN]
theorem updN_ne {α : Type} (f : Nat → α) {i j : Nat} (v : α) (h : j ≠ i) : updN f i v j = f j := by simp [updN, h]

theorem anc_le {P : Nat → Nat} {m a b : Nat} (hlt : ∀ j, 0 < j → j < m → P j < j) (h : Anc P a b) (hb : b < m) : a ≤ b := by
  induction h with
  | refl => exact Nat.le_refl _
  | up h0 _ ih => have := hlt _ h0 hb; have := ih (by omega); omega

/-- a new leaf turns nothing above the old ones -/
theorem anc_new {P : Nat → Nat} {m q a : Nat} (hlt : ∀ j, 0 < j → j < m → P j < j) : ∀ b, b < m → (Anc (updN P m q) a b ↔ Anc P a b) := by
  intro b
  induction b using Nat.strongRecOn with
  | ind b ih =>
    intro hb
    have hne : b ≠ m := by omega
    constructor
    · intro h
      cases h with
      | refl => exact .refl
      | up h0 h1 =>
        rw [updN_ne _ _ hne] at h1
        have := hlt b h0 hb
        exact .up h0 ((ih _ this (by omega)).1 h1)
    · intro h
      cases h with
      | refl => exact .refl
      | up h0 h1 =>
        have := hlt b h0 hb
        refine .up h0 ?_
        rw [updN_ne _ _ hne]
        exact (ih _ this (by omega)).2 h1

/-- how many of the first n are not numbered -/
def free (num : Nat → Int) : Nat → Nat
  | 0 => 0
  | n + 1 => free num n + if num n < 0 then 1 else 0

theorem free_upd {num : Nat → Int} {w : Nat} {x : Int} (hw : num w < 0) (hx : 0 ≤ x) : ∀ n, free (updN num w x) n + (if w < n then 1 else 0) = free num n := by
  intro n
  induction n with
  | zero => simp [free]
  | succ n ih =>
    simp only [free]
    by_cases e : n = w
    · subst e
      rw [updN_same, if_neg (show ¬ x < 0 by omega), if_pos hw, if_pos (show n < n + 1 by omega)]
      rw [if_neg (show ¬ n < n by omega)] at ih
      omega
    · rw [updN_ne _ _ e]
      by_cases c : w < n
      · rw [if_pos c] at ih; rw [if_pos (show w < n + 1 by omega)]; omega
      · rw [if_neg c] at ih; rw [if_neg (show ¬ w < n + 1 by omega)]; omega

/-- edges out of each vertex: those of v are to sc k, sf v ≤ k < sf (v+1) -/
structure Gr (n L : Nat) (sf sc : Nat → Nat) : Prop where
  mono : ∀ v, v < n → sf v ≤ sf (v + 1)
  top : ∀ v, v ≤ n → sf v ≤ L
  lt : ∀ k, k < L → sc k < n

def Go1 (sf sc : Nat → Nat) (u v : Nat) : Prop := ∃ k, sf u ≤ k ∧ k < sf (u + 1) ∧ sc k = v

/-- the stack's weight -/
def wt (sf V : Nat → Nat) : List (Nat × Nat) → Nat
  | [] => 0
  | (j, x) :: r => (sf (V j + 1) - x + 1) + wt sf V r

/-- the stack is a way up the tree -/
def Way (P : Nat → Nat) : List (Nat × Nat) → Prop
  | [] => True
  | [(j, _)] => j = 0
  | (j, _) :: (k, y) :: r => 0 < j ∧ P j = k ∧ Way P ((k, y) :: r)

structure Dfs (n src L : Nat) (sf sc : Nat → Nat) (m : Nat) (V : Nat → Nat) (num span : Nat → Int) (P : Nat → Nat) (St : List (Nat × Nat)) : Prop where
  m1 : 1 ≤ m
  free : free num n + m = n
  v0 : V 0 = src
  vlt : ∀ j, j < m → V j < n
  numV : ∀ j, j < m → num (V j) = (j : Int)
  unv : ∀ v, v < n → num v = -1 ∨ ∃ j, j < m ∧ V j = v
  sp : ∀ j, 0 < j → j < m → P j < j ∧ span (V j) = (V (P j) : Int) ∧ Go1 sf sc (V (P j)) (V j)
  spN : ∀ v, v < n → (num v = -1 ∨ v = src) → span v = -1
  stl : ∀ j x, (j, x) ∈ St → j < m ∧ sf (V j) ≤ x ∧ x ≤ sf (V j + 1)
  way : Way P St
  i4 : ∀ j x, (j, x) ∈ St → ∀ z, z < m → j ≤ z → Anc P j z
  ival : ∀ u z z', Anc P u z' → z' < m → u ≤ z → z ≤ z' → Anc P u z
  scan : ∀ j x, (j, x) ∈ St → ∀ k, sf (V j) ≤ k → k < x → ∃ z, z < m ∧ V z = sc k
  fin : ∀ j, j < m → (∀ x, (j, x) ∉ St) → ∀ k, sf (V j) ≤ k → k < sf (V j + 1) → ∃ z, z < m ∧ V z = sc k ∧ (j ≤ z → Anc P j z)

section
variable {n src L m : Nat} {sf sc V P : Nat → Nat} {num span : Nat → Int} {St : List (Nat × Nat)}

theorem Dfs.inj (h : Dfs n src L sf sc m V num span P St) {i j : Nat} (hi : i < m) (hj : j < m) (e : V i = V j) : i = j := by
  have h1 := h.numV i hi
  have h2 := h.numV j hj
  rw [e] at h1
  omega

theorem Dfs.plt (h : Dfs n src L sf sc m V num span P St) : ∀ j, 0 < j → j < m → P j < j := fun j h0 hj => (h.sp j h0 hj).1

theorem Dfs.seen (h : Dfs n src L sf sc m V num span P St) {v : Nat} (hv : v < n) (hn : 0 ≤ num v) : ∃ z, z < m ∧ V z = v ∧ num v = (z : Int) := by
  rcases h.unv v hv with e | ⟨z, hz, e⟩
  · omega
  · exact ⟨z, hz, e, by rw [← e]; exact h.numV z hz⟩

theorem Dfs.start (hs : src < n) (hsf : sf src ≤ sf (src + 1)) : Dfs n src L sf sc 1 (fun _ => src) (updN (fun _ => -1) src 0) (fun _ => -1) (fun _ => 0) [(0, sf src)] := by
  have hf : ∀ k, Go.Proofs.Qxb6602963a.free (fun _ => (-1 : Int)) k = k := fun k => by
    induction k with
    | zero => rfl
    | succ k ih => simp only [Go.Proofs.Qxb6602963a.free]; rw [ih, if_pos (by omega)]
  refine ⟨Nat.le_refl _, ?_, rfl, fun _ _ => hs, fun j hj => ?_, fun v hv => ?_, fun j h0 hj => by omega, fun _ _ _ => rfl, fun j x hm => ?_, rfl, fun j x hm z hz hjz => ?_, fun u z z' h1 h2 h3 h4 => ?_, fun j x hm k h1 h2 => ?_, fun j hj hn => ?_⟩
  · have := free_upd (num := fun _ => -1) (w := src) (x := 0) (by omega) (by omega) n
    rw [hf, if_pos hs] at this
    exact this
  · rw [updN_same]; omega
  · by_cases e : v = src
    · exact .inr ⟨0, by omega, e.symm⟩
    · exact .inl (updN_ne _ _ e)
  · obtain ⟨rfl, rfl⟩ : j = 0 ∧ x = sf src := by simpa using hm
    exact ⟨by omega, Nat.le_refl _, hsf⟩
  · obtain ⟨rfl, rfl⟩ : j = 0 ∧ x = sf src := by simpa using hm
    obtain rfl : z = 0 := by omega
    exact .refl
  · obtain rfl : z = z' := by omega
    exact h1
  · obtain ⟨rfl, rfl⟩ : j = 0 ∧ x = sf src := by simpa using hm
    omega
  · exact absurd (by simp; omega) (hn (sf src))

theorem way_tail {p : Nat × Nat} {r : List (Nat × Nat)} (h : Way P (p :: r)) : Way P r := by
  cases r with
  | nil => trivial
  | cons q r => obtain ⟨k, y⟩ := q; obtain ⟨j, x⟩ := p; exact h.2.2

/-- all below the top of the stack are lower -/
theorem way_lt (hlt : ∀ j, 0 < j → j < m → P j < j) : ∀ (r : List (Nat × Nat)) (j x : Nat), j < m → Way P ((j, x) :: r) → ∀ k y, (k, y) ∈ r → k < j := by
  intro r
  induction r with
  | nil => intro j x _ _ k y h; simp at h
  | cons q r ih =>
    obtain ⟨k', y'⟩ := q
    intro j x hj hw k y hm
    obtain ⟨h0, h1, h2⟩ := hw
    have hlt' := hlt j h0 hj
    rcases List.mem_cons.1 hm with e | e
    · cases e; omega
    · have := ih k' y' (by omega) h2 k y e
      omega

theorem way_any {j x y : Nat} {r : List (Nat × Nat)} (h : Way P ((j, x) :: r)) : Way P ((j, y) :: r) := by
  cases r with
  | nil => exact h
  | cons q r => obtain ⟨k, z⟩ := q; exact h

theorem Dfs.pop {j x : Nat} {r : List (Nat × Nat)} (h : Dfs n src L sf sc m V num span P ((j, x) :: r)) (hx : x = sf (V j + 1)) : Dfs n src L sf sc m V num span P r := by
  have hj := (h.stl j x List.mem_cons_self).1
  refine ⟨h.m1, h.free, h.v0, h.vlt, h.numV, h.unv, h.sp, h.spN, fun i y hm => h.stl i y (List.mem_cons_of_mem _ hm), way_tail h.way, fun i y hm => h.i4 i y (List.mem_cons_of_mem _ hm), h.ival,
    fun i y hm => h.scan i y (List.mem_cons_of_mem _ hm), fun i hi hn k h1 h2 => ?_⟩
  by_cases e : i = j
  · subst e
    obtain ⟨z, hz, e⟩ := h.scan i x List.mem_cons_self k h1 (by omega)
    exact ⟨z, hz, e, fun c => h.i4 i x List.mem_cons_self z hz c⟩
  · refine h.fin i hi (fun y hy => ?_) k h1 h2
    rcases List.mem_cons.1 hy with c | c
    · cases c; exact e rfl
    · exact hn y c

theorem Dfs.skip {j x z : Nat} {r : List (Nat × Nat)} (h : Dfs n src L sf sc m V num span P ((j, x) :: r)) (hx : x < sf (V j + 1)) (hz : z < m) (hs : V z = sc x) : Dfs n src L sf sc m V num span P ((j, x + 1) :: r) := by
  obtain ⟨hj, h1, h2⟩ := h.stl j x List.mem_cons_self
  refine ⟨h.m1, h.free, h.v0, h.vlt, h.numV, h.unv, h.sp, h.spN, fun i y hm => ?_, way_any h.way, fun i y hm => ?_, h.ival, fun i y hm => ?_, fun i hi hn => h.fin i hi fun y hy => ?_⟩
  · rcases List.mem_cons.1 hm with e | e
    · cases e; exact ⟨hj, by omega, by omega⟩
    · exact h.stl i y (List.mem_cons_of_mem _ e)
  · rcases List.mem_cons.1 hm with e | e
    · cases e; exact h.i4 j x List.mem_cons_self
    · exact h.i4 i y (List.mem_cons_of_mem _ e)
  · rcases List.mem_cons.1 hm with e | e
    · cases e
      intro k c1 c2
      by_cases e : k = x
      · subst e; exact ⟨z, hz, hs⟩
      · exact h.scan j x List.mem_cons_self k c1 (by omega)
    · exact h.scan i y (List.mem_cons_of_mem _ e)
  · rcases List.mem_cons.1 hy with e | e
    · cases e; exact hn (x + 1) List.mem_cons_self
    · exact hn y (List.mem_cons_of_mem _ e)

theorem Dfs.push (G : Gr n L sf sc) {j x : Nat} {r : List (Nat × Nat)} (h : Dfs n src L sf sc m V num span P ((j, x) :: r)) (hx : x < sf (V j + 1)) (hn : num (sc x) < 0) :
    Dfs n src L sf sc (m + 1) (updN V m (sc x)) (updN num (sc x) (m : Int)) (updN span (sc x) (V j : Int)) (updN P m j) ((m, sf (sc x)) :: (j, x + 1) :: r) := by
  obtain ⟨hj, h1, h2⟩ := h.stl j x List.mem_cons_self
  have hvj := h.vlt j hj
  have hw : sc x < n := G.lt x (by have := G.top (V j + 1) (by omega); omega)
  have hm1 := h.m1
  have hVne : ∀ i, i < m → V i ≠ sc x := fun i hi e => by have := h.numV i hi; rw [e] at this; omega
  have hVi : ∀ i, i < m → updN V m (sc x) i = V i := fun i hi => updN_ne _ _ (by omega)
  have hPi : ∀ i, i < m → updN P m j i = P i := fun i hi => updN_ne _ _ (by omega)
  have hplt' : ∀ i, 0 < i → i < m + 1 → updN P m j i < i := fun i h0 hi => by
    by_cases e : i = m
    · subst e; rw [updN_same]; exact hj
    · rw [hPi i (by omega)]; exact h.plt i h0 (by omega)
  have hanc : ∀ a b, b < m → (Anc (updN P m j) a b ↔ Anc P a b) := fun a b hb => anc_new h.plt b hb
  have hancm : ∀ a, a ≠ m → (Anc (updN P m j) a m ↔ Anc P a j) := fun a ha => by
    constructor
    · intro k
      have := (k.par_of_ne ha).2
      rw [updN_same] at this
      exact (hanc a j hj).1 this
    · intro k
      refine .up (by omega) ?_
      rw [updN_same]
      exact (hanc a j hj).2 k
  have hsrc : src ≠ sc x := by rw [← h.v0]; exact hVne 0 (by omega)
  refine ⟨by omega, ?_, ?_, fun i hi => ?_, fun i hi => ?_, fun v hv => ?_, fun i h0 hi => ?_, fun v hv hc => ?_, fun i y hm => ?_, ?_, fun i y hm z hz hiz => ?_, fun u z z' k1 k2 k3 k4 => ?_, fun i y hm k c1 c2 => ?_, fun i hi hnm k c1 c2 => ?_⟩
  · have := free_upd (num := num) (w := sc x) (x := (m : Int)) hn (by omega) n
    rw [if_pos hw] at this
    have := h.free
    omega
  · rw [hVi 0 (by omega)]; exact h.v0
  · by_cases e : i = m
    · subst e; rw [updN_same]; exact hw
    · rw [hVi i (by omega)]; exact h.vlt i (by omega)
  · by_cases e : i = m
    · subst e; rw [updN_same, updN_same]
    · rw [hVi i (by omega), updN_ne _ _ (hVne i (by omega))]; exact h.numV i (by omega)
  · by_cases e : v = sc x
    · exact .inr ⟨m, by omega, by rw [updN_same, e]⟩
    · rw [updN_ne _ _ e]
      rcases h.unv v hv with c | ⟨i, hi, c⟩
      · exact .inl c
      · exact .inr ⟨i, by omega, by rw [hVi i hi]; exact c⟩
  · by_cases e : i = m
    · subst e
      rw [updN_same, updN_same, hVi j hj, updN_same]
      exact ⟨hj, rfl, x, h1, hx, rfl⟩
    · have hi' : i < m := by omega
      obtain ⟨q1, q2, q3⟩ := h.sp i h0 hi'
      rw [hPi i hi', hVi i hi', hVi (P i) (by omega), updN_ne _ _ (hVne i hi')]
      exact ⟨q1, q2, q3⟩
  · by_cases e : v = sc x
    · subst e
      rw [updN_same] at hc
      rcases hc with c | c
      · omega
      · exact absurd c.symm hsrc
    · rw [updN_ne _ _ e] at hc ⊢
      exact h.spN v hv hc
  · rcases List.mem_cons.1 hm with e | e
    · cases e
      rw [updN_same]
      exact ⟨by omega, Nat.le_refl _, G.mono _ hw⟩
    · rcases List.mem_cons.1 e with e | e
      · cases e
        rw [hVi j hj]
        exact ⟨by omega, by omega, by omega⟩
      · obtain ⟨q1, q2, q3⟩ := h.stl i y (List.mem_cons_of_mem _ e)
        rw [hVi i q1]
        exact ⟨by omega, q2, q3⟩
  · have hw2 : ∀ (l : List (Nat × Nat)), (∀ k y, (k, y) ∈ l → k < m) → Way P l → Way (updN P m j) l := by
      intro l
      induction l with
      | nil => intros; trivial
      | cons q l ih =>
        obtain ⟨k, y⟩ := q
        intro hl hW
        cases l with
        | nil => exact hW
        | cons q' l =>
          obtain ⟨k', y'⟩ := q'
          obtain ⟨a1, a2, a3⟩ := hW
          exact ⟨a1, by rw [hPi k (hl k y List.mem_cons_self)]; exact a2, ih (fun a b hab => hl a b (List.mem_cons_of_mem _ hab)) a3⟩
    refine ⟨by omega, updN_same _ _ _, hw2 _ (fun k y hky => ?_) (way_any h.way)⟩
    rcases List.mem_cons.1 hky with e | e
    · cases e; exact hj
    · exact (h.stl k y (List.mem_cons_of_mem _ e)).1
  · -- on the stack: all later ones are below
    have old : ∀ i' y', (i', y') ∈ ((j, x) :: r) → i' ≤ z → Anc (updN P m j) i' z := fun i' y' hm' hiz' => by
      have hi := (h.stl i' y' hm').1
      by_cases e : z = m
      · subst e
        refine (hancm i' (by omega)).2 (h.i4 i' y' hm' j hj ?_)
        rcases List.mem_cons.1 hm' with c | c
        · cases c; exact Nat.le_refl _
        · have := way_lt h.plt r j x hj h.way i' y' c; omega
      · exact (hanc i' z (by omega)).2 (h.i4 i' y' hm' z (by omega) hiz')
    rcases List.mem_cons.1 hm with e | e
    · cases e
      obtain rfl : z = m := by omega
      exact .refl
    · rcases List.mem_cons.1 e with e | e
      · cases e; exact old j x List.mem_cons_self hiz
      · exact old i y (List.mem_cons_of_mem _ e) hiz
  · by_cases e : z' = m
    · subst e
      by_cases e2 : z = z'
      · subst e2; exact k1
      · have hu : u ≠ z' := by omega
        have k5 := (hancm u hu).1 k1
        have hule := anc_le h.plt k5 hj
        -- u is on the way up from j: all from u on are below u
        refine (hanc u z (by omega)).2 ?_
        by_cases c : z ≤ j
        · exact h.ival u z j k5 hj k3 c
        · exact k5.trans (h.i4 j x List.mem_cons_self z (by omega) (by omega))
    · exact (hanc u z (by omega)).2 (h.ival u z z' ((hanc u z' (by omega)).1 k1) (by omega) k3 k4)
  · rcases List.mem_cons.1 hm with e | e
    · cases e
      rw [updN_same] at c1
      omega
    · rcases List.mem_cons.1 e with e | e
      · cases e
        rw [hVi j hj] at c1
        by_cases e : k = x
        · subst e; exact ⟨m, by omega, updN_same _ _ _⟩
        · obtain ⟨z, hz, e⟩ := h.scan j x List.mem_cons_self k c1 (by omega)
          exact ⟨z, by omega, by rw [hVi z hz]; exact e⟩
      · have hi := (h.stl i y (List.mem_cons_of_mem _ e)).1
        rw [hVi i hi] at c1
        obtain ⟨z, hz, e⟩ := h.scan i y (List.mem_cons_of_mem _ e) k c1 c2
        exact ⟨z, by omega, by rw [hVi z hz]; exact e⟩
  · have hi' : i < m := by
      rcases Nat.lt_or_ge i m with c | c
      · exact c
      · obtain rfl : i = m := by omega
        exact absurd List.mem_cons_self (hnm (sf (sc x)))
    rw [hVi i hi'] at c1 c2
    obtain ⟨z, hz, e1, e2⟩ := h.fin i hi' (fun y hy => by
      rcases List.mem_cons.1 hy with c | c
      · cases c; exact hnm (x + 1) (List.mem_cons_of_mem _ List.mem_cons_self)
      · exact hnm y (List.mem_cons_of_mem _ (List.mem_cons_of_mem _ c))) k c1 c2
    exact ⟨z, by omega, by rw [hVi z hz]; exact e1, fun c => (hanc i z hz).2 (e2 c)⟩
end
end Go.Proofs.Qxb6602963a
