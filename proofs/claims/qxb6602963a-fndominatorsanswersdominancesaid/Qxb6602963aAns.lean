import Derived.Test.Qxb6602963aStp
namespace Go.Proofs.Qxb6602963a
set_option linter.unusedVariables false

/-- how many of the first n -/
def cn (p : Nat → Bool) : Nat → Nat
  | 0 => 0
  | n + 1 => cn p n + if p n = true then 1 else 0

theorem cn_le (p : Nat → Bool) : ∀ n, cn p n ≤ n := by
  intro n
  induction n with
  | zero => exact Nat.le_refl _
  | succ n ih => simp only [cn]; split <;> omega

theorem cn_congr {p q : Nat → Bool} : ∀ n, (∀ i, i < n → p i = q i) → cn p n = cn q n := by
  intro n h
  induction n with
  | zero => rfl
  | succ n ih => simp only [cn]; rw [ih (fun i hi => h i (by omega)), h n (by omega)]

theorem cn_none {p : Nat → Bool} : ∀ n, (∀ i, i < n → p i = false) → cn p n = 0 := by
  intro n h
  induction n with
  | zero => rfl
  | succ n ih => simp only [cn]; rw [ih (fun i hi => h i (by omega)), h n (by omega)]; rfl

theorem cn_one {p : Nat → Bool} {k : Nat} : ∀ n, k < n → (∀ i, i < n → (p i = true ↔ i = k)) → cn p n = 1 := by
  intro n
  induction n with
  | zero => intro h; omega
  | succ n ih =>
    intro hk h
    simp only [cn]
    by_cases e : k = n
    · subst e
      rw [if_pos ((h k (by omega)).2 rfl), cn_none k (fun i hi => by
        have := h i (by omega)
        cases hp : p i with
        | false => rfl
        | true => have := this.1 hp; omega)]
    · rw [if_neg (fun c => by have := (h n (by omega)).1 c; omega), ih (by omega) (fun i hi => h i (by omega))]

theorem cn_add {p q r : Nat → Bool} : ∀ n, (∀ i, i < n → (p i = true ↔ q i = true ∨ r i = true)) → (∀ i, i < n → ¬ (q i = true ∧ r i = true)) → cn p n = cn q n + cn r n := by
  intro n h1 h2
  induction n with
  | zero => rfl
  | succ n ih =>
    simp only [cn]
    rw [ih (fun i hi => h1 i (by omega)) (fun i hi => h2 i (by omega))]
    have a := h1 n (by omega)
    have b := h2 n (by omega)
    by_cases c1 : q n = true
    · by_cases c2 : r n = true
      · exact absurd ⟨c1, c2⟩ b
      · rw [if_pos (a.2 (.inl c1)), if_pos c1, if_neg c2]; omega
    · by_cases c2 : r n = true
      · rw [if_pos (a.2 (.inr c2)), if_neg c1, if_pos c2]; omega
      · rw [if_neg (fun c => (a.1 c).elim c1 c2), if_neg c1, if_neg c2]; omega

theorem cn_span {n m : Nat} {pre : Nat → Int} (ex : ∀ x, x < m → ∃ b, b < n ∧ pre b = (x : Int)) (inj : ∀ b b', b < n → b' < n → 0 ≤ pre b → pre b = pre b' → b = b') (x : Nat) :
    ∀ y, x ≤ y → y ≤ m → cn (fun b => decide ((x : Int) ≤ pre b) && decide (pre b < (y : Int))) n = y - x := by
  intro y
  induction y with
  | zero =>
    intro h1 _
    rw [cn_none n (fun i _ => by
      rw [Bool.and_eq_false_iff, decide_eq_false_iff_not, decide_eq_false_iff_not]; omega)]
    omega
  | succ y ih =>
    intro h1 h2
    by_cases e : x = y + 1
    · rw [cn_none n (fun i _ => by
        rw [Bool.and_eq_false_iff, decide_eq_false_iff_not, decide_eq_false_iff_not]; omega)]
      omega
    · obtain ⟨b, hb, hbe⟩ := ex y (by omega)
      rw [cn_add (q := fun b => decide ((x : Int) ≤ pre b) && decide (pre b < (y : Int))) (r := fun b => decide (pre b = (y : Int))) n, ih (by omega) (by omega), cn_one (k := b) n hb]
      · omega
      · intro i hi
        rw [decide_eq_true_iff]
        constructor
        · intro h; exact inj i b hi hb (by omega) (by omega)
        · intro h; rw [h]; exact hbe
      · intro i hi
        simp only [Bool.and_eq_true, decide_eq_true_iff]
        omega
      · intro i hi
        simp only [Bool.and_eq_true, decide_eq_true_iff]
        omega

theorem cn_free {S : Nat → Bool} {num : Nat → Int} : ∀ n, (∀ v, v < n → (S v = true ↔ 0 ≤ num v)) → cn S n + free num n = n := by
  intro n h
  induction n with
  | zero => rfl
  | succ n ih =>
    have := ih (fun v hv => h v (by omega))
    have a := h n (by omega)
    simp only [cn, free]
    by_cases c : S n = true
    · rw [if_pos c, if_neg (by have := a.1 c; omega)]; omega
    · rw [if_neg c, if_pos (by rcases Int.lt_or_le (num n) 0 with h | h; exact h; exact absurd (a.2 h) c)]; omega

theorem rv_congr {n L src : Nat} {pf pr sf sc sf2 sc2 : Nat → Nat} (hs : src < n) (G1 : Gr n L sf sc) (f1 : ∀ u v, u < n → v < n → (Go1 sf sc u v ↔ Fits n pf pr u v)) (f2 : ∀ u v, u < n → v < n → (Go1 sf2 sc2 u v ↔ Fits n pf pr u v)) {av : Int} {v : Nat} (h : RV (Go1 sf sc) src av v) : v < n ∧ RV (Go1 sf2 sc2) src av v := by
  induction h with
  | zero => exact ⟨hs, .zero⟩
  | @step u v _ hG hne ih =>
    obtain ⟨hu, hr⟩ := ih
    have hv : v < n := by
      obtain ⟨k, _, h2, h3⟩ := hG
      rw [← h3]
      exact G1.lt k (by have := G1.top (u + 1) (by omega); omega)
    exact ⟨hv, .step hr ((f2 _ _ hu hv).2 ((f1 _ _ hu hv).1 hG)) hne⟩

/-- what the law asks of the answer -/
structure Ans (n src : Nat) (G : Nat → Nat → Prop) (E : Nat → Nat → Prop) (S : Nat → Bool) (pre post span : Nat → Int) : Prop where
  off : ∀ v, v < n → S v = false → pre v = -1 ∧ post v = -1 ∧ span v = -1
  rng : ∀ v, v < n → S v = true → 0 ≤ pre v ∧ pre v < (cn S n : Int) ∧ pre v ≤ post v ∧ post v ≤ n
  inj : ∀ u v, u < n → v < n → S u = true → S v = true → pre u = pre v → u = v
  root : S src = true ∧ span src = -1
  sp : ∀ v, v < n → S v = true → v ≠ src → ∃ s, s < n ∧ span v = (s : Int) ∧ S s = true ∧ E s v
  rk : ∃ rk : Nat → Nat, (∀ v, v < n → S v = true → rk v < n) ∧ ∀ v s : Nat, v < n → S v = true → v ≠ src → span v = (s : Int) → s < n → rk s < rk v
  dom : ∀ a b, a < n → b < n → S a = true → S b = true → ((pre a ≤ pre b ∧ pre b < post a) ↔ (a = b ∨ a = src ∨ ¬ RV G src (a : Int) b))
  cnt : ∀ a, a < n → S a = true → (cn (fun b => decide (pre a ≤ pre b) && decide (pre b < post a)) n : Int) = post a - pre a

theorem ans_of {n L src m : Nat} {pf pr sf sc sf2 sc2 V d : Nat → Nat} {num span pre post preV postV : Nat → Int} {P : Nat → Nat} {S : Nat → Bool} (hs : src < n)
    (G1 : Gr n L sf sc) (f1 : ∀ u v, u < n → v < n → (Go1 sf sc u v ↔ Fits n pf pr u v)) (G2 : Gr n L sf2 sc2) (f2 : ∀ u v, u < n → v < n → (Go1 sf2 sc2 u v ↔ Fits n pf pr u v))
    (hF : Dfs n src L sf sc m V num span P []) (hN : Nums m d pre post) (hR : ∀ i j, i < m → j < m → (¬ RA (En m sf sc V) i j ↔ Anc d i j)) (l1 : Laid n m V pre preV) (l2 : Laid n m V post postV)
    (hS : ∀ v, v < n → (S v = true ↔ RV (Go1 sf2 sc2) src (-1) v)) : Ans n src (Go1 sf2 sc2) (Fits n pf pr) S preV postV span := by
  have rv : ∀ av v, RV (Go1 sf2 sc2) src av v ↔ RV (Go1 sf sc) src av v := fun av v => ⟨fun h => (rv_congr hs G2 f2 f1 h).2, fun h => (rv_congr hs G1 f1 f2 h).2⟩
  have hSv : ∀ v, v < n → (S v = true ↔ ∃ j, j < m ∧ V j = v) := fun v hv => by rw [hS v hv, rv, hF.reach]
  have hSn : ∀ v, v < n → (S v = true ↔ 0 ≤ num v) := fun v hv => by
    rw [hSv v hv]
    constructor
    · rintro ⟨j, hj, rfl⟩; rw [hF.numV j hj]; omega
    · intro h
      rcases hF.unv v hv with c | c
      · omega
      · exact c
  have hm : cn S n = m := by have h1 := cn_free n hSn; have h2 := hF.free; omega
  have hmn : m ≤ n := by have := hF.free; omega
  have hno : ∀ v, v < n → S v = false → ∀ i, i < m → V i ≠ v := fun v hv h i hi e => by
    have := (hSv v hv).2 ⟨i, hi, e⟩
    rw [h] at this; cases this
  have hyes : ∀ j, j < m → S (V j) = true := fun j hj => (hSv _ (hF.vlt j hj)).2 ⟨j, hj, rfl⟩
  refine ⟨fun v hv h => ⟨l1.off v hv (hno v hv h), l2.off v hv (hno v hv h), hF.spN v hv (.inl ?_)⟩, fun v hv h => ?_, fun u v hu hv h1 h2 e => ?_, ⟨(hS src hs).2 .zero, hF.spN src hs (.inr rfl)⟩, fun v hv h hne => ?_, ⟨fun v => (num v).toNat, fun v hv h => ?_, fun v s hv h hne he hs' => ?_⟩, fun a b ha hb h1 h2 => ?_, fun a ha h => ?_⟩
  · rcases hF.unv v hv with c | ⟨j, hj, e⟩
    · exact c
    · exact absurd e (hno v hv h j hj)
  · obtain ⟨j, hj, rfl⟩ := (hSv v hv).1 h
    rw [l1.on j hj, l2.on j hj, hm]
    have h1 := hN.rng j hj
    have h2 := hN.pst j hj
    omega
  · obtain ⟨i, hi, rfl⟩ := (hSv u hu).1 h1
    obtain ⟨j, hj, rfl⟩ := (hSv v hv).1 h2
    rw [l1.on i hi, l1.on j hj] at e
    rw [hN.inj i j hi hj e]
  · obtain ⟨j, hj, rfl⟩ := (hSv v hv).1 h
    have hj0 : 0 < j := by
      rcases Nat.eq_zero_or_pos j with c | c
      · subst c; exact absurd hF.v0 hne
      · exact c
    obtain ⟨p1, p2, p3⟩ := hF.sp j hj0 hj
    exact ⟨V (P j), hF.vlt _ (by omega), p2, hyes _ (by omega), (f1 _ _ (hF.vlt _ (by omega)) hv).1 p3⟩
  · obtain ⟨j, hj, rfl⟩ := (hSv v hv).1 h
    show (num (V j)).toNat < n
    rw [hF.numV j hj]
    omega
  · obtain ⟨j, hj, rfl⟩ := (hSv v hv).1 h
    have hj0 : 0 < j := by
      rcases Nat.eq_zero_or_pos j with c | c
      · subst c; exact absurd hF.v0 hne
      · exact c
    obtain ⟨p1, p2, p3⟩ := hF.sp j hj0 hj
    have e : s = V (P j) := by omega
    show (num s).toNat < (num (V j)).toNat
    rw [e, hF.numV j hj, hF.numV (P j) (by omega)]
    omega
  · obtain ⟨i, hi, rfl⟩ := (hSv a ha).1 h1
    obtain ⟨j, hj, rfl⟩ := (hSv b hb).1 h2
    rw [l1.on i hi, l1.on j hj, l2.on i hi, ← hN.iff i j hi hj, ← hR i j hi hj]
    rcases Nat.eq_zero_or_pos i with c | c
    · subst c
      exact ⟨fun _ => .inr (.inl hF.v0), fun _ => RA_none⟩
    · have hav : RV (Go1 sf2 sc2) src (V i : Int) (V j) ↔ RA (En m sf sc V) i j := by
        rw [rv, hF.avoid c hi]
        constructor
        · rintro ⟨j', hj', e, h⟩
          rw [← hF.inj hj' hj e]; exact h
        · intro h; exact ⟨j, hj, rfl, h⟩
      rw [hav]
      constructor
      · exact fun h => .inr (.inr h)
      · rintro (h | h | h)
        · have := hF.inj hi hj h
          subst this
          exact fun k => k.ne rfl
        · have : i = 0 := hF.inj hi (by omega) (by rw [h, hF.v0])
          omega
        · exact h
  · obtain ⟨i, hi, rfl⟩ := (hSv a ha).1 h
    have h1 := hN.rng i hi
    have h2 := hN.pst i hi
    obtain ⟨x, hx⟩ : ∃ x : Nat, pre i = (x : Int) := ⟨(pre i).toNat, by omega⟩
    obtain ⟨y, hy⟩ : ∃ y : Nat, post i = (y : Int) := ⟨(post i).toNat, by omega⟩
    rw [l1.on i hi, l2.on i hi, hx, hy]
    rw [cn_span (m := m) (fun x hx => by
      obtain ⟨j, hj, e⟩ := hN.surj x hx
      exact ⟨V j, hF.vlt j hj, by rw [l1.on j hj, e]⟩) (fun b b' hb hb' h0 e => by
      have r : ∀ b, b < n → 0 ≤ preV b → ∃ j, j < m ∧ V j = b := fun b hb h => by
        refine (hSv b hb).1 ?_
        cases c : S b with
        | true => rfl
        | false => have := l1.off b hb (hno b hb c); omega
      obtain ⟨j, hj, rfl⟩ := r b hb h0
      obtain ⟨j', hj', rfl⟩ := r b' hb' (by omega)
      rw [l1.on j hj, l1.on j' hj'] at e
      rw [hN.inj j j' hj hj' e]) x y (by omega) (by omega)]
    omega
end Go.Proofs.Qxb6602963a
