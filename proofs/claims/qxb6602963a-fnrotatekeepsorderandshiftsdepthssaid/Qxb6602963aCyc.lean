/-
  'following up from any vertex comes to 0': the plain laws of the cycle test. No Go in sight.
-/
import Derived.Test.Qxb6602963aTree
import Derived.Test.Qxb6602963aMem
namespace Go.Proofs.Qxb6602963a
set_option linter.unusedVariables false

def itr (u : Nat → Nat) : Nat → Nat → Nat
  | 0, v => v
  | m + 1, v => itr u m (u v)

theorem itr_succ (u : Nat → Nat) (m v : Nat) : itr u (m + 1) v = u (itr u m v) := by
  induction m generalizing v with
  | zero => rfl
  | succ m ih => exact ih (u v)

theorem itr_add (u : Nat → Nat) (m n v : Nat) : itr u (m + n) v = itr u m (itr u n v) := by
  induction n generalizing v with
  | zero => rfl
  | succ n ih => exact ih (u v)

/-- following u from v comes to 0 -/
def Rz (u : Nat → Nat) (v : Nat) : Prop := ∃ m, itr u m v = 0

def Acy (u : Nat → Nat) (L : Nat) : Prop := ∃ rk : Nat → Nat, ∀ v, Vx L v → u v ≠ 0 → rk (u v) < rk v

theorem acy_of_rz {u : Nat → Nat} {L : Nat} (hb : ∀ v, Vx L v → u v < L) (h : ∀ v, Vx L v → Rz u v) : Acy u L := by
  refine ⟨fun v => Go.leastOf (fun m => itr u m v = 0), fun v hv h0 => ?_⟩
  have hu : Vx L (u v) := ⟨by omega, hb v hv⟩
  obtain ⟨h1, _⟩ := Go.leastOf_spec (h v hv)
  obtain ⟨_, h4⟩ := Go.leastOf_spec (h (u v) hu)
  generalize hm : Go.leastOf (fun m => itr u m v = 0) = m at h1
  show Go.leastOf (fun m => itr u m (u v) = 0) < Go.leastOf (fun m => itr u m v = 0)
  rw [hm]
  match m, h1 with
  | 0, h1 => exact absurd h1 (by have := hv.1; simp only [itr]; omega)
  | m + 1, h1 => have := h4 m h1; omega

theorem acy_back {u : Nat → Nat} {L v : Nat} {rk : Nat → Nat} (hrk : ∀ v, Vx L v → u v ≠ 0 → rk (u v) < rk v) {j n : Nat} (hv : ∀ i, i < n → Vx L (itr u (j + i) v)) (hz : itr u (j + n) v ≠ 0) : rk (itr u (j + n) v) + n ≤ rk (itr u j v) := by
  induction n with
  | zero => simp
  | succ n ih =>
    have h1 := hv n (by omega)
    have e : itr u (j + (n + 1)) v = u (itr u (j + n) v) := itr_succ u (j + n) v
    rw [e] at hz ⊢
    have h2 := hrk _ h1 hz
    have h3 := ih (fun i hi => hv i (by omega)) (by have := h1.1; omega)
    omega

/-- how many of the vertices below n have state 0 -/
def zc (st : Nat → Nat) : Nat → Nat
  | 0 => 0
  | n + 1 => zc st n + if n ≠ 0 ∧ st n = 0 then 1 else 0

theorem zc_le (st : Nat → Nat) (n : Nat) : zc st n ≤ n - 1 := by
  induction n with
  | zero => simp [zc]
  | succ n ih =>
    simp only [zc]
    by_cases h : n ≠ 0 ∧ st n = 0
    · rw [if_pos h]; omega
    · rw [if_neg h]; omega

theorem zc_same (st : Nat → Nat) (x c n : Nat) (h : n ≤ x) : zc (upd st x c) n = zc st n := by
  induction n with
  | zero => rfl
  | succ n ih => simp only [zc]; rw [ih (by omega), upd_other _ _ _ _ (by omega)]

theorem zc_upd (st : Nat → Nat) (x c n : Nat) (h0 : 0 < x) (hx : x < n) (hs : st x = 0) (hc : c ≠ 0) : zc (upd st x c) n + 1 = zc st n := by
  induction n with
  | zero => omega
  | succ n ih =>
    simp only [zc]
    by_cases e : x = n
    · subst e
      rw [zc_same _ _ _ _ (Nat.le_refl _), upd_same, if_neg (by omega), if_pos ⟨by omega, hs⟩]
    · rw [← ih (by omega), upd_other _ _ _ _ (by omega)]
      omega

structure Up (u : Nat → Nat) (L v : Nat) (st0 st pa : Nat → Nat) (k x : Nat) : Prop where
  hx : x = itr u k v
  xL : x < L
  path : ∀ j, j < k → pa j = itr u j v ∧ Vx L (pa j)
  one : ∀ i, i < L → (st i = 1 ↔ ∃ j, j < k ∧ i = pa j)
  old : ∀ i, i < L → st i ≠ 1 → st i = st0 i
  cnt : k + zc st L ≤ L - 1
  first : st0 v = 0 → k = 0 → x = v

structure Out (u : Nat → Nat) (L : Nat) (st : Nat → Nat) (k : Nat) : Prop where
  vals : ∀ i, i < L → st i = 0 ∨ st i = 2
  rz : ∀ i, Vx L i → st i = 2 → Rz u i
  done : ∀ i, 0 < i → i < k → i < L → st i = 2

theorem up_start {u : Nat → Nat} {L v k : Nat} {st pa : Nat → Nat} (h : Out u L st k) (hv : Vx L v) : Up u L v st st pa 0 v :=
  ⟨rfl, hv.2, fun j hj => absurd hj (by omega), fun i hi => ⟨fun e => by rcases h.vals i hi with h1 | h1 <;> omega, fun ⟨j, hj, _⟩ => absurd hj (by omega)⟩, fun i hi _ => rfl, by have := zc_le st L; omega, fun _ _ => rfl⟩

theorem up_step {u : Nat → Nat} {L v k x : Nat} {st0 st pa : Nat → Nat} (h : Up u L v st0 st pa k x) (hb : ∀ v, Vx L v → u v < L) (h0 : x ≠ 0) (hs : st x = 0) :
    Up u L v st0 (upd st x 1) (upd pa k x) (k + 1) (u x) := by
  have hx : Vx L x := ⟨by omega, h.xL⟩
  have hz := zc_upd st x 1 L hx.1 hx.2 hs (by omega)
  have := h.cnt
  refine ⟨by rw [itr_succ, ← h.hx], hb x hx, ?_, ?_, ?_, by omega, fun _ h => absurd h (by omega)⟩
  · intro j hj
    by_cases e : j = k
    · subst e; rw [upd_same]; exact ⟨h.hx, hx⟩
    · rw [upd_other _ _ _ _ e]; exact h.path j (by omega)
  · intro i hi
    by_cases e : i = x
    · subst e
      rw [upd_same]
      exact ⟨fun _ => ⟨k, by omega, by rw [upd_same]⟩, fun _ => rfl⟩
    · rw [upd_other _ _ _ _ e, h.one i hi]
      constructor
      · rintro ⟨j, hj, e2⟩
        exact ⟨j, by omega, by rw [upd_other _ _ _ _ (by omega)]; exact e2⟩
      · rintro ⟨j, hj, e2⟩
        by_cases e3 : j = k
        · subst e3; rw [upd_same] at e2; exact absurd e2 e
        · rw [upd_other _ _ _ _ e3] at e2
          exact ⟨j, by omega, e2⟩
  · intro i hi hn
    by_cases e : i = x
    · subst e; rw [upd_same] at hn; exact absurd rfl hn
    · rw [upd_other _ _ _ _ e] at hn ⊢; exact h.old i hi hn

theorem up_lt {u : Nat → Nat} {L v k x : Nat} {st0 st pa : Nat → Nat} (h : Up u L v st0 st pa k x) (h0 : x ≠ 0) (hs : st x = 0) : k + 1 < L ∧ zc (upd st x 1) L < zc st L := by
  have hz := zc_upd st x 1 L (by omega) h.xL hs (by omega)
  have := h.cnt
  have := h.xL
  omega

/-- the walk has come back onto its own path: there is a cycle -/
theorem up_cycle {u : Nat → Nat} {L v k x : Nat} {st0 st pa : Nat → Nat} (h : Up u L v st0 st pa k x) (h0 : x ≠ 0) (hs : st x = 1) : ¬ Acy u L := by
  rintro ⟨rk, hrk⟩
  obtain ⟨j, hj, e⟩ := (h.one x h.xL).1 hs
  obtain ⟨n, rfl⟩ : ∃ n, k = j + (n + 1) := ⟨k - j - 1, by omega⟩
  have h1 := acy_back hrk (j := j) (n := n + 1) (v := v) (fun i hi => by have := h.path (j + i) (by omega); rw [← this.1]; exact this.2) (by rw [← h.hx]; exact h0)
  rw [← h.hx, ← (h.path j hj).1, ← e] at h1
  omega

/-- st' is st with the first j places of the path set to 2 -/
def Mk (L : Nat) (st st' pa : Nat → Nat) (j : Nat) : Prop := ∀ i, i < L → ((∃ m, m < j ∧ i = pa m) → st' i = 2) ∧ ((¬ ∃ m, m < j ∧ i = pa m) → st' i = st i)

theorem mk_start (L : Nat) (st pa : Nat → Nat) : Mk L st st pa 0 := fun i hi => ⟨fun ⟨m, hm, _⟩ => absurd hm (by omega), fun _ => rfl⟩
theorem mk_step {L : Nat} {st st' pa : Nat → Nat} {j : Nat} (h : Mk L st st' pa j) : Mk L st (upd st' (pa j) 2) pa (j + 1) := by
  intro i hi
  by_cases e : i = pa j
  · rw [e, upd_same]
    exact ⟨fun _ => rfl, fun hn => absurd ⟨j, by omega, rfl⟩ hn⟩
  · rw [upd_other _ _ _ _ e]
    refine ⟨?_, ?_⟩
    · rintro ⟨m, hm, e2⟩
      refine (h i hi).1 ⟨m, ?_, e2⟩
      by_cases e3 : m = j
      · subst e3; exact absurd e2 e
      · omega
    · intro hn
      refine (h i hi).2 ?_
      rintro ⟨m, hm, e2⟩
      exact hn ⟨m, by omega, e2⟩

theorem out_start (u : Nat → Nat) (L : Nat) : Out u L (fun _ => 0) 1 :=
  ⟨fun _ _ => .inl rfl, fun i hi h => (by cases h), fun i h0 h1 => (by omega)⟩

theorem out_skip {u : Nat → Nat} {L k : Nat} {st : Nat → Nat} (h : Out u L st k) (hs : st k ≠ 0) : Out u L st (k + 1) :=
  ⟨h.vals, h.rz, fun i h0 h1 hL => by
    by_cases e : i = k
    · subst e
      rcases h.vals i hL with h2 | h2
      · exact absurd h2 hs
      · exact h2
    · exact h.done i h0 (by omega) hL⟩

theorem out_step {u : Nat → Nat} {L v k x : Nat} {st0 st st' pa : Nat → Nat} (o : Out u L st0 v) (hv : Vx L v) (h0 : st0 v = 0) (h : Up u L v st0 st pa k x) (hx : x = 0 ∨ (st x ≠ 0 ∧ st x ≠ 1)) (m : Mk L st st' pa k) : Out u L st' (v + 1) := by
  have rx : Rz u x := by
    rcases hx with e | ⟨e1, e2⟩
    · exact ⟨0, e⟩
    · by_cases e : x = 0
      · exact ⟨0, e⟩
      · have e3 := h.old x h.xL e2
        rcases o.vals x h.xL with h3 | h3
        · rw [h3] at e3; exact absurd e3 e1
        · exact o.rz x ⟨by omega, h.xL⟩ h3
  have rp : ∀ j, j < k → Rz u (pa j) := by
    intro j hj
    obtain ⟨n, hn⟩ := rx
    refine ⟨n + (k - j), ?_⟩
    rw [(h.path j hj).1, ← itr_add, show n + (k - j) + j = n + k by omega, itr_add, ← h.hx]
    exact hn
  have hk : 0 < k := by
    by_cases e : k = 0
    · exfalso
      have e1 := h.first h0 e
      subst e1
      rcases hx with e2 | ⟨e2, e3⟩
      · have := hv.1; omega
      · exact e2 (by rw [h.old x h.xL e3, h0])
    · omega
  have pv : v = pa 0 := by rw [(h.path 0 hk).1]; rfl
  refine ⟨?_, ?_, ?_⟩
  · intro i hi
    by_cases hp : ∃ m, m < k ∧ i = pa m
    · right; exact (m i hi).1 hp
    · rw [(m i hi).2 hp]
      have h1 : st i ≠ 1 := fun e => hp ((h.one i hi).1 e)
      rw [h.old i hi h1]
      exact o.vals i hi
  · intro i hi hs
    by_cases hp : ∃ m, m < k ∧ i = pa m
    · obtain ⟨j, hj, rfl⟩ := hp
      exact rp j hj
    · rw [(m i hi.2).2 hp] at hs
      have h1 : st i ≠ 1 := fun e => hp ((h.one i hi.2).1 e)
      rw [h.old i hi.2 h1] at hs
      exact o.rz i hi hs
  · intro i hi0 h1 hL
    by_cases hp : ∃ m, m < k ∧ i = pa m
    · exact (m i hL).1 hp
    · rw [(m i hL).2 hp]
      have h2 : st i ≠ 1 := fun e => hp ((h.one i hL).1 e)
      rw [h.old i hL h2]
      by_cases e : i = v
      · exfalso; exact hp ⟨0, hk, by rw [e]; exact pv⟩
      · exact o.done i hi0 (by omega) hL

theorem out_acy {u : Nat → Nat} {L : Nat} {st : Nat → Nat} (h : Out u L st L) (hb : ∀ v, Vx L v → u v < L) : Acy u L :=
  acy_of_rz hb fun v hv => h.rz v hv (h.done v hv.1 hv.2 hv.2)
end Go.Proofs.Qxb6602963a
