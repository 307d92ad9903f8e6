import Derived.Test.Qxb6602963aG9
namespace Go.Proofs.Qxb6602963a
set_option linter.unusedVariables false

/-- the forest's numbers lie in their range -/
structure BD (m : Nat) (anc : Nat → Int) (lab sm : Nat → Nat) : Prop where
  al : ∀ i, i < m → -1 ≤ anc i ∧ anc i < m ∧ lab i < m
  sl : ∀ i, i < m → sm i < m

/-- the main loop's state -/
structure LS (m : Nat) (P : Nat → Nat) (E : Nat → Nat → Prop) (L : Nat) (anc : Nat → Int) (sm lab d0 : Nat → Nat) (bf bn : Nat → Int) (bk : Nat → List Nat) : Prop where
  lp : Lp m P E L sm anc lab d0 bk
  ll : ∀ p, p < m → LL bn (bf p) (bk p)
  nd : ∀ p, (bk p).Nodup
  bd : BD m anc lab sm

/-- the state over the edges into i -/
structure AS (m : Nat) (P : Nat → Nat) (E : Nat → Nat → Prop) (sm : Nat → Nat) (i x lo : Nat) (pr V : Nat → Nat) (c : Nat) (anc : Nat → Int) (lab : Nat → Nat) : Prop where
  acc : Acc m P E sm i (fun v => v < m ∧ ∃ t, t < x ∧ pr (lo + t) = V v) c
  fo : Forest m (i + 1) P (updN sm i c) anc lab
  bd : BD m anc lab (updN sm i c)

/-- the state in the bucket's loop -/
structure BS (m : Nat) (P : Nat → Nat) (E : Nat → Nat → Prop) (i : Nat) (anc : Nat → Int) (sm lab d0 : Nat → Nat) (bf bn : Nat → Int) (bk : Nat → List Nat) (left : List Nat) : Prop where
  mid : Mid m P E i sm anc lab d0 bk left
  ll : ∀ p, p < m → LL bn (bf p) (bk p)
  nd : ∀ p, (bk p).Nodup
  lnd : left.Nodup
  bd : BD m anc lab sm

section
variable {n src L m : Nat} {sf sc V P : Nat → Nat} {num span : Nat → Int} {E : Nat → Nat → Prop} {i x lo c : Nat} {pr : Nat → Nat} {anc : Nat → Int} {sm lab d0 : Nat → Nat} {bf bn : Nat → Int} {bk : Nat → List Nat} {left : List Nat}

theorem LS.start (hE : ∀ i j, E i j → i < m ∧ j < m) : LS m P E m (fun _ => -1) (fun i => i) (fun i => i) (fun _ => 0) (fun _ => -1) (fun _ => 0) (fun _ => []) :=
  ⟨Lp.start _ _ _ (fun _ _ => ⟨rfl, rfl⟩) (fun k => k) (fun _ _ => rfl) hE, fun _ _ => rfl, fun _ => List.Pairwise.nil, ⟨fun i hi => ⟨by omega, by omega, hi⟩, fun i hi => hi⟩⟩

theorem LS.same (h : LS m P E (i + 1) anc sm lab d0 bf bn bk) : updN sm i i = sm := by
  funext j
  by_cases e : j = i
  · subst e; rw [updN_same, h.lp.self j (by omega)]
  · rw [updN_ne _ _ e]

theorem AS.start (h : LS m P E (i + 1) anc sm lab d0 bf bn bk) (hi : i < m) : AS m P E sm i 0 lo pr V i anc lab := by
  refine ⟨⟨Nat.le_refl _, fun v hv => ?_, fun v u hv => ?_, .inl rfl⟩, ?_, ?_⟩
  · obtain ⟨_, t, ht, _⟩ := hv; omega
  · obtain ⟨_, t, ht, _⟩ := hv; omega
  · rw [h.same]; exact h.lp.forest
  · rw [h.same]; exact h.bd

theorem AS.skip (h : AS m P E sm i x lo pr V c anc lab) (hF : Dfs n src L sf sc m V num span P []) (hn : num (pr (lo + x)) < 0) : AS m P E sm i (x + 1) lo pr V c anc lab := by
  have hs : ∀ v, (v < m ∧ ∃ t, t < x + 1 ∧ pr (lo + t) = V v) → (v < m ∧ ∃ t, t < x ∧ pr (lo + t) = V v) := fun v ⟨hv, t, ht, e⟩ => by
    refine ⟨hv, t, ?_, e⟩
    by_cases e2 : t = x
    · subst e2; have := hF.numV v hv; rw [← e] at this; omega
    · omega
  exact ⟨⟨h.acc.le, fun v hv => h.acc.low v (hs v hv), fun v u hv => h.acc.high v u (hs v hv), h.acc.att⟩, h.fo, h.bd⟩

theorem AS.step (T : Tree m P E) (h : AS m P E sm i x lo pr V c anc lab) (inj : ∀ i j, i < m → j < m → V i = V j → i = j) (hsm : ∀ k, k < i → sm k = k) (hi : i < m) {z u : Nat} (hz : z < m) (hu : u < m) (hVz : pr (lo + x) = V z) (hE : E z i) (he : EvalOk (i + 1) P (updN sm i c) z u) {anc' : Nat → Int} {lab' : Nat → Nat} (hF : Forest m (i + 1) P (updN sm i c) anc' lab') (hb : ∀ i, i < m → -1 ≤ anc' i ∧ anc' i < m ∧ lab' i < m) :
    AS m P E sm i (x + 1) lo pr V (if updN sm i c u < c then updN sm i c u else c) anc' lab' := by
  have hs : ∀ v, (v < m ∧ ∃ t, t < x + 1 ∧ pr (lo + t) = V v) → ((v < m ∧ ∃ t, t < x ∧ pr (lo + t) = V v) ∨ v = z) := fun v ⟨hv, t, ht, e⟩ => by
    by_cases e2 : t = x
    · subst e2; exact .inr (inj v z hv hz (by rw [← e, hVz]))
    · exact .inl ⟨hv, t, by omega, e⟩
  have hst := h.acc.step hE he hsm
  have hle := h.acc.le
  have hup := h.bd.sl u hu
  have eq : ∀ c' y, y ≠ i → updN sm i c' y = updN sm i c y := fun c' y hy => by rw [updN_ne _ _ hy, updN_ne _ _ hy]
  refine ⟨⟨hst.le, fun v hv => hst.low v (hs v hv), fun v u hv => hst.high v u (hs v hv), hst.att⟩, hF.semi T (fun y hy => eq _ y (by omega)), ⟨hb, fun j hj => ?_⟩⟩
  by_cases e : j = i
  · subst e
    rw [updN_same]
    split
    · exact hup
    · omega
  · rw [eq _ j e]; exact h.bd.sl j hj

theorem BS.start (T : Tree m P E) (H : LS m P E (i + 1) anc sm lab d0 bf bn bk) (h0 : 0 < i) (hi : i < m) {anc' : Nat → Int} {lab' : Nat → Nat} (h : AS m P E sm i x lo pr V c anc' lab') (hdone : ∀ v, E v i → (v < m ∧ ∃ t, t < x ∧ pr (lo + t) = V v)) :
    BS m P E i (updN anc' i (P i : Int)) (updN sm i c) lab' d0 (updN bf c (i : Int)) (updN bn i (bf c)) (updN bk c (i :: bk c)) (updN bk c (i :: bk c) (P i)) ∧ LL (updN bn i (bf c)) (updN bf c (i : Int) (P i)) (updN bk c (i :: bk c) (P i)) ∧ c < i := by
  obtain ⟨hci, _⟩ := h.acc.above T H.lp h0 hi hdone
  have hp := T.lt i h0 hi
  have hni : ∀ p, i ∉ bk p := fun p hm => by have := (H.lp.bks p i hm).1; omega
  have hll : ∀ p, p < m → LL (updN bn i (bf c)) (updN bf c (i : Int) p) (updN bk c (i :: bk c) p) := fun p hpm => by
    by_cases e : p = c
    · subst e
      rw [updN_same, updN_same]
      refine ⟨rfl, ?_⟩
      rw [updN_same]
      exact (LL.upd _ _ (hni p)).2 (H.ll p hpm)
    · rw [updN_ne _ _ e, updN_ne _ _ e]
      exact (LL.upd _ _ (hni p)).2 (H.ll p hpm)
  have hnd : ∀ p, (updN bk c (i :: bk c) p).Nodup := fun p => by
    by_cases e : p = c
    · subst e; rw [updN_same]; exact List.nodup_cons.2 ⟨hni p, H.nd p⟩
    · rw [updN_ne _ _ e]; exact H.nd p
  refine ⟨⟨H.lp.mid T h0 hi h.acc hdone anc' lab' h.fo, hll, hnd, hnd _, ⟨fun j hj => ?_, h.bd.sl⟩⟩, hll _ (by omega), hci⟩
  obtain ⟨b1, b2, b3⟩ := h.bd.al j hj
  by_cases e : j = i
  · subst e; rw [updN_same]; exact ⟨by omega, by omega, b3⟩
  · rw [updN_ne _ _ e]; exact ⟨b1, b2, b3⟩

theorem BS.step (T : Tree m P E) (h0 : 0 < i) (hi : i < m) {k u : Nat} (H : BS m P E i anc sm lab d0 bf bn bk (k :: left)) (he : EvalOk i P sm k u) {anc' : Nat → Int} {lab' : Nat → Nat} (hF : Forest m i P sm anc' lab') (hb : ∀ i, i < m → -1 ≤ anc' i ∧ anc' i < m ∧ lab' i < m) :
    BS m P E i anc' sm lab' (updN d0 k (if sm u < sm k then u else P i)) bf bn bk left :=
  ⟨H.mid.step T h0 hi (List.nodup_cons.1 H.lnd).1 he anc' lab' hF, H.ll, H.nd, (List.nodup_cons.1 H.lnd).2, ⟨hb, H.bd.sl⟩⟩

theorem BS.over (H : BS m P E i anc sm lab d0 bf bn bk []) : LS m P E i anc sm lab d0 (updN bf (P i) (-1)) bn (updN bk (P i) []) := by
  refine ⟨H.mid.over, fun p hp => ?_, fun p => ?_, H.bd⟩
  · by_cases e : p = P i
    · rw [e, updN_same, updN_same]; rfl
    · rw [updN_ne _ _ e, updN_ne _ _ e]; exact H.ll p hp
  · by_cases e : p = P i
    · rw [e, updN_same]; exact List.Pairwise.nil
    · rw [updN_ne _ _ e]; exact H.nd p

/-- the last pass: up to j the answers stand -/
structure LP (m : Nat) (sm d0 : Nat → Nat) (j : Nat) (d : Nat → Nat) : Prop where
  old : ∀ k, j ≤ k → d k = d0 k
  zero : d 0 = d0 0
  last : ∀ k, 0 < k → k < j → Last sm d0 d k
  lt : ∀ k, 0 < k → k < m → d0 k < k

theorem LP.start (T : Tree m P E) (S : Semi m P E sm) (hF : ∀ w, 0 < w → w < m → First m P sm d0 w) : LP m sm d0 1 d0 := by
  refine ⟨fun _ _ => rfl, rfl, fun k h1 h2 => by omega, fun k h1 h2 => ?_⟩
  obtain ⟨u, ha, hu, hmin, e⟩ := hF k h1 h2
  have h3 := (semi_lt T S h1 h2).2
  have h4 := ha.le T h2
  rw [e]
  split
  · rename_i h5
    have : u ≠ k := by rintro rfl; omega
    omega
  · exact h3

theorem LP.step {j : Nat} {d : Nat → Nat} (h : LP m sm d0 j d) (h0 : 0 < j) (hj : j < m) : LP m sm d0 (j + 1) (updN d j (if d0 j = sm j then d0 j else d (d0 j))) := by
  have hl := h.lt j h0 hj
  refine ⟨fun k hk => ?_, ?_, fun k h1 h2 => ?_, h.lt⟩
  · rw [updN_ne _ _ (by omega)]; exact h.old k (by omega)
  · rw [updN_ne _ _ (by omega)]; exact h.zero
  · unfold Last
    by_cases e : k = j
    · subst e
      rw [updN_same, updN_ne _ _ (by omega)]
    · have h3 := h.last k h1 (by omega)
      have h4 := h.lt k h1 (by omega)
      unfold Last at h3
      rw [updN_ne _ _ e, h3]
      rw [updN_ne _ _ (show d0 k ≠ j by omega)]
end
end Go.Proofs.Qxb6602963a
