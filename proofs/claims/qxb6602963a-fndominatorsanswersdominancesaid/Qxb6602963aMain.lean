import Derived.Test.Qxb6602963aDfs
namespace Go.Proofs.Qxb6602963a
set_option linter.unusedVariables false

/-- the candidates for the semidominator of i that were looked at -/
structure Acc (m : Nat) (par : Nat → Nat) (E : Nat → Nat → Prop) (sm : Nat → Nat) (i : Nat) (done : Nat → Prop) (c : Nat) : Prop where
  le : c ≤ i
  low : ∀ v, done v → v < i → c ≤ v
  high : ∀ v u, done v → i < v → Anc par u v → i < u → c ≤ sm u
  att : c = i ∨ (∃ v, E v i ∧ v < i ∧ c = v) ∨ ∃ v u, E v i ∧ i < v ∧ Anc par u v ∧ i < u ∧ c = sm u

section
variable {m i L : Nat} {par : Nat → Nat} {E : Nat → Nat → Prop} {sm sm' lab d0 : Nat → Nat} {anc : Nat → Int} {bk : Nat → List Nat} {done : Nat → Prop} {c : Nat}

theorem Acc.start : Acc m par E sm i (fun _ => False) i := ⟨Nat.le_refl _, fun _ h => h.elim, fun _ _ h => h.elim, .inl rfl⟩

theorem Acc.step (h : Acc m par E sm i done c) {v u : Nat} (hE : E v i) (he : EvalOk (i + 1) par (updN sm i c) v u) (hsm : ∀ k, k < i → sm k = k) :
    Acc m par E sm i (fun x => done x ∨ x = v) (if updN sm i c u < c then updN sm i c u else c) := by
  rcases he with ⟨h1, rfl⟩ | ⟨h1, h2, h3, h4⟩
  · by_cases e : u = i
    · subst e
      rw [updN_same, if_neg (by omega)]
      refine ⟨h.le, fun v hv hvi => ?_, fun v w hv hvi => ?_, h.att⟩
      · rcases hv with hv | rfl
        · exact h.low v hv hvi
        · omega
      · rcases hv with hv | rfl
        · exact h.high v w hv hvi
        · omega
    · rw [updN_ne _ _ e, hsm u (by omega)]
      have hle := h.le
      refine ⟨by split <;> omega, fun v hv hvi => ?_, fun v w hv hvi ha hw => ?_, ?_⟩
      · rcases hv with hv | rfl
        · have := h.low v hv hvi
          split <;> omega
        · split <;> omega
      · rcases hv with hv | rfl
        · have := h.high v w hv hvi ha hw
          split <;> omega
        · omega
      · split
        · exact .inr (.inl ⟨u, hE, by omega, rfl⟩)
        · exact h.att
  · have e : u ≠ i := by omega
    rw [updN_ne _ _ e]
    have hle := h.le
    refine ⟨by split <;> omega, fun x hv hvi => ?_, fun x w hv hvi ha hw => ?_, ?_⟩
    · rcases hv with hv | rfl
      · have := h.low x hv hvi
        split <;> omega
      · omega
    · rcases hv with hv | rfl
      · have := h.high x w hv hvi ha hw
        split <;> omega
      · have := h4 w ha (by omega)
        rw [updN_ne _ _ e, updN_ne _ _ (by omega)] at this
        split <;> omega
    · split
      · exact .inr (.inr ⟨v, u, hE, by omega, h3, by omega, rfl⟩)
      · exact h.att

/-- the main loop: the vertices from L on are done -/
structure Lp (m : Nat) (par : Nat → Nat) (E : Nat → Nat → Prop) (L : Nat) (sm : Nat → Nat) (anc : Nat → Int) (lab d0 : Nat → Nat) (bk : Nat → List Nat) : Prop where
  self : ∀ k, k < L → sm k = k
  low : ∀ v k, L ≤ k → E v k → v < k → sm k ≤ v
  high : ∀ v k u, L ≤ k → E v k → k < v → Anc par u v → k < u → sm k ≤ sm u
  att : ∀ k, L ≤ k → k < m → (∃ v, E v k ∧ v < k ∧ sm k = v) ∨ ∃ v u, E v k ∧ k < v ∧ Anc par u v ∧ k < u ∧ sm k = sm u
  sa : ∀ k, L ≤ k → k < m → Anc par (sm k) k ∧ sm k < k
  forest : Forest m L par sm anc lab
  bks : ∀ p k, k ∈ bk p → L ≤ k ∧ k < m ∧ sm k = p ∧ ∃ q, Anc par q k ∧ par q = p ∧ 0 < q ∧ q < L
  fin : ∀ k, L ≤ k → k < m → k ∈ bk (sm k) ∨ (First m par sm d0 k ∧ ∀ x, Anc par x k → sm k < x → L ≤ x)

theorem Lp.start (anc : Nat → Int) (lab d0 : Nat → Nat) (ha : ∀ v, v < m → anc v = -1 ∧ lab v = v) (sm : Nat → Nat) (hs : ∀ k, k < m → sm k = k) (hE : ∀ i j, E i j → i < m ∧ j < m) : Lp m par E m (fun k => k) anc lab d0 (fun _ => []) :=
  ⟨fun _ _ => rfl, fun v k hk he => by have := hE _ _ he; omega, fun v k u hk he => by have := hE _ _ he; omega, fun k h1 h2 => by omega, fun k h1 h2 => by omega, ⟨fun v _ hv => ha v hv, fun v h1 h2 => by omega⟩, fun p k hk => by simp at hk, fun k h1 h2 => by omega⟩

theorem child {a k : Nat} (h : Anc par a k) : a ≠ k → ∃ q, Anc par q k ∧ par q = a ∧ 0 < q := by
  induction h with
  | refl => intro h; exact absurd rfl h
  | up h0 h1 ih =>
    rename_i b
    intro _
    by_cases e : a = par b
    · exact ⟨b, .refl, e.symm, h0⟩
    · obtain ⟨q, h2, h3, h4⟩ := ih e
      exact ⟨q, .up h0 h2, h3, h4⟩

/-- where the semidominator of i stands: it lies above i -/
theorem Acc.above (T : Tree m par E) (H : Lp m par E (i + 1) sm anc lab d0 bk) (h0 : 0 < i) (hi : i < m) (h : Acc m par E sm i done c) (hdone : ∀ v, E v i → done v) :
    c < i ∧ Anc par c i := by
  have hp := T.lt i h0 hi
  have hc : c < i := by have := h.low _ (hdone _ (T.edge i h0 hi)) hp; omega
  refine ⟨hc, ?_⟩
  rcases h.att with e | ⟨v, hE, hv, rfl⟩ | ⟨v, u, hE, hv, hA, hu, rfl⟩
  · omega
  · exact T.fwd _ _ hE hv
  · have hvm := (T.dom _ _ hE).1
    have hum : u < m := by have := hA.le T hvm; omega
    exact T.ival _ i v ((H.sa u (by omega) hum).1.trans hA) hvm (by omega) (by omega)

theorem first_turn {s s' d0 : Nat → Nat} {k : Nat} (h : First m par s d0 k) (hs : ∀ x, Anc par x k → s k < x → s' x = s x) (hk : s' k = s k) (d' : Nat → Nat) (hd : d' k = d0 k) : First m par s' d' k := by
  obtain ⟨u, h1, h2, h3, h4⟩ := h
  refine ⟨u, h1, by rw [hk]; exact h2, fun x hx hx2 => ?_, ?_⟩
  · rw [hk] at hx2
    rw [hs x hx hx2, hs u h1 h2]
    exact h3 x hx hx2
  · rw [hd, h4, hk, hs u h1 h2]

/-- behind the link and before the bucket is emptied: the state that the bucket's loop keeps -/
structure Mid (m : Nat) (par : Nat → Nat) (E : Nat → Nat → Prop) (i : Nat) (sm : Nat → Nat) (anc : Nat → Int) (lab d0 : Nat → Nat) (bk : Nat → List Nat) (left : List Nat) : Prop where
  self : ∀ k, k < i → sm k = k
  low : ∀ v k, i ≤ k → E v k → v < k → sm k ≤ v
  high : ∀ v k u, i ≤ k → E v k → k < v → Anc par u v → k < u → sm k ≤ sm u
  att : ∀ k, i ≤ k → k < m → (∃ v, E v k ∧ v < k ∧ sm k = v) ∨ ∃ v u, E v k ∧ k < v ∧ Anc par u v ∧ k < u ∧ sm k = sm u
  sa : ∀ k, i ≤ k → k < m → Anc par (sm k) k ∧ sm k < k
  forest : Forest m i par sm anc lab
  bks : ∀ p k, k ∈ bk p → i ≤ k ∧ k < m ∧ sm k = p ∧ (p ≠ par i → ∃ q, Anc par q k ∧ par q = p ∧ 0 < q ∧ q < i)
  sub : ∀ k, k ∈ left → k ∈ bk (par i)
  fin : ∀ k, i ≤ k → k < m → (k ∈ bk (sm k) ∧ sm k ≠ par i) ∨ k ∈ left ∨ (First m par sm d0 k ∧ ∀ x, Anc par x k → sm k < x → i ≤ x)

theorem Lp.mid (T : Tree m par E) (H : Lp m par E (i + 1) sm anc lab d0 bk) (h0 : 0 < i) (hi : i < m) (h : Acc m par E sm i done c) (hdone : ∀ v, E v i → done v) (anc' : Nat → Int) (lab' : Nat → Nat) (hF : Forest m (i + 1) par (updN sm i c) anc' lab') :
    Mid m par E i (updN sm i c) (fun j => if j = i then ((par i : Nat) : Int) else anc' j) lab' d0 (updN bk c (i :: bk c)) (updN bk c (i :: bk c) (par i)) := by
  obtain ⟨hc, hA⟩ := h.above T H h0 hi hdone
  have hne : ∀ k, i + 1 ≤ k → updN sm i c k = sm k := fun k hk => updN_ne _ _ (by omega)
  refine ⟨fun k hk => ?_, fun v k hk he hv => ?_, fun v k u hk he hv ha hu => ?_, fun k hk hm => ?_, fun k hk hm => ?_, hF.link T h0 hi, fun p k hk => ?_, fun k hk => hk, fun k hk hm => ?_⟩
  · rw [updN_ne _ _ (by omega)]; exact H.self k (by omega)
  · by_cases e : k = i
    · subst e; rw [updN_same]; exact h.low v (hdone v he) hv
    · rw [hne k (by omega)]; exact H.low v k (by omega) he hv
  · by_cases e : k = i
    · subst e; rw [updN_same, hne u (by omega)]; exact h.high v u (hdone v he) hv ha hu
    · rw [hne k (by omega), hne u (by omega)]; exact H.high v k u (by omega) he hv ha hu
  · by_cases e : k = i
    · subst e
      rw [updN_same]
      rcases h.att with e | ⟨v, hE, hv, e⟩ | ⟨v, u, hE, hv, hA, hu, e⟩
      · omega
      · exact .inl ⟨v, hE, hv, e⟩
      · exact .inr ⟨v, u, hE, hv, hA, hu, by rw [hne u (by omega)]; exact e⟩
    · rw [hne k (by omega)]
      rcases H.att k (by omega) hm with ⟨v, hE, hv, e⟩ | ⟨v, u, hE, hv, hA, hu, e⟩
      · exact .inl ⟨v, hE, hv, e⟩
      · exact .inr ⟨v, u, hE, hv, hA, hu, by rw [hne u (by omega)]; exact e⟩
  · by_cases e : k = i
    · subst e; rw [updN_same]; exact ⟨hA, hc⟩
    · rw [hne k (by omega)]; exact H.sa k (by omega) hm
  · have old : k ∈ bk p → i ≤ k ∧ k < m ∧ updN sm i c k = p ∧ (p ≠ par i → ∃ q, Anc par q k ∧ par q = p ∧ 0 < q ∧ q < i) := fun hk => by
      obtain ⟨h1, h2, h3, q, h4, h5, h6, h7⟩ := H.bks p k hk
      refine ⟨by omega, h2, by rw [hne k (by omega)]; exact h3, fun hp => ⟨q, h4, h5, h6, ?_⟩⟩
      have : q ≠ i := by rintro rfl; exact hp h5.symm
      omega
    by_cases e : p = c
    · subst e
      rw [updN_same] at hk
      rcases List.mem_cons.1 hk with e | e
      · subst e
        refine ⟨Nat.le_refl _, hi, updN_same _ _ _, fun hp => ?_⟩
        obtain ⟨q, h1, h2, h3⟩ := child hA (by omega)
        have h4 := h1.le T hi
        have : q ≠ k := by rintro rfl; exact hp h2.symm
        exact ⟨q, h1, h2, h3, by omega⟩
      · exact old e
    · rw [updN_ne _ _ e] at hk; exact old hk
  · by_cases e : k = i
    · subst e
      rw [updN_same]
      by_cases e2 : c = par k
      · exact .inr (.inl (by rw [← e2, updN_same]; exact List.mem_cons_self))
      · exact .inl ⟨by rw [updN_same]; exact List.mem_cons_self, e2⟩
    · rw [hne k (by omega)]
      have mem : ∀ p, k ∈ bk p → k ∈ updN bk c (i :: bk c) p := fun p hp => by
        by_cases e3 : p = c
        · subst e3; rw [updN_same]; exact List.mem_cons_of_mem _ hp
        · rw [updN_ne _ _ e3]; exact hp
      rcases H.fin k (by omega) hm with h1 | ⟨h1, h2⟩
      · by_cases e2 : sm k = par i
        · exact .inr (.inl (by rw [← e2]; exact mem _ h1))
        · exact .inl ⟨mem _ h1, e2⟩
      · exact .inr (.inr ⟨first_turn h1 (fun x hx hx2 => hne x (h2 x hx hx2)) (hne k (by omega)) d0 rfl, fun x hx hx2 => by have := h2 x hx hx2; omega⟩)

/-- one vertex of the bucket -/
theorem Mid.step (T : Tree m par E) (h0 : 0 < i) (hi : i < m) {k : Nat} {left : List Nat} (H : Mid m par E i sm anc lab d0 bk (k :: left)) (hnd : k ∉ left) {u : Nat} (he : EvalOk i par sm k u) (anc' : Nat → Int) (lab' : Nat → Nat) (hF : Forest m i par sm anc' lab') :
    Mid m par E i sm anc' lab' (updN d0 k (if sm u < sm k then u else par i)) bk left := by
  obtain ⟨hk1, hk2, hk3, _⟩ := H.bks _ k (H.sub k List.mem_cons_self)
  have hp := T.lt i h0 hi
  have hge : ∀ x, Anc par x k → par i < x → i ≤ x := fun x hx hpx => by
    rcases Nat.lt_or_ge x i with c | c
    · have h1 := T.ival x i k hx hk2 (by omega) hk1
      have h2 := (h1.par_of_ne (by omega)).2.le T (by omega)
      omega
    · exact c
  refine ⟨H.self, H.low, H.high, H.att, H.sa, hF, H.bks, fun x hx => H.sub x (List.mem_cons_of_mem _ hx), fun x hx hxm => ?_⟩
  by_cases e : x = k
  · subst e
    refine .inr (.inr ?_)
    rcases he with ⟨h1, _⟩ | ⟨h1, h2, h3, h4⟩
    · omega
    · refine ⟨⟨u, h3, by omega, fun y hy hy2 => h4 y hy (hge y hy (by omega)), ?_⟩, fun y hy hy2 => hge y hy (by omega)⟩
      rw [updN_same, hk3]
  · rcases H.fin x hx hxm with h1 | h1 | ⟨h1, h2⟩
    · exact .inl h1
    · rcases List.mem_cons.1 h1 with c | c
      · exact absurd c e
      · exact .inr (.inl c)
    · exact .inr (.inr ⟨first_turn h1 (fun _ _ _ => rfl) rfl _ (updN_ne _ _ e), h2⟩)

theorem Mid.over (H : Mid m par E i sm anc lab d0 bk []) : Lp m par E i sm anc lab d0 (updN bk (par i) []) := by
  refine ⟨H.self, H.low, H.high, H.att, H.sa, H.forest, fun p k hk => ?_, fun k hk hm => ?_⟩
  · by_cases e : p = par i
    · subst e; rw [updN_same] at hk; simp at hk
    · rw [updN_ne _ _ e] at hk
      obtain ⟨h1, h2, h3, h4⟩ := H.bks p k hk
      exact ⟨h1, h2, h3, h4 e⟩
  · rcases H.fin k hk hm with ⟨h1, h2⟩ | h1 | h1
    · exact .inl (by rw [updN_ne _ _ h2]; exact h1)
    · simp at h1
    · exact .inr h1

/-- the loop's end -/
theorem Lp.all (H : Lp m par E 1 sm anc lab d0 bk) : Semi m par E sm ∧ ∀ w, 0 < w → w < m → First m par sm d0 w := by
  refine ⟨⟨fun v i hi he hv => H.low v i hi he hv, fun v i u hi he hv ha hu => H.high v i u hi he hv ha hu, fun i hi hm => H.att i hi hm⟩, fun w h0 hw => ?_⟩
  rcases H.fin w h0 hw with h1 | ⟨h1, _⟩
  · obtain ⟨_, _, _, q, _, _, h2, h3⟩ := H.bks _ w h1
    omega
  · exact h1
end
end Go.Proofs.Qxb6602963a
