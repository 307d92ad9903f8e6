import Derived.Test.Qxb6602963aRch
namespace Go.Proofs.Qxb6602963a
set_option linter.unusedVariables false

def seenN (seen : Nat → Bool) (v : Nat) : Int := if seen v then 0 else -1

structure Bfs (n src L : Nat) (av : Int) (sf sc : Nat → Nat) (seen : Nat → Bool) (q : Nat → Nat) (head tail : Nat) : Prop where
  ht : head ≤ tail
  hq : ∀ x, x < tail → q x < n ∧ seen (q x) = true ∧ RV (Go1 sf sc) src av (q x)
  hs : ∀ v, v < n → seen v = true → ∃ x, x < tail ∧ q x = v
  fr : free (seenN seen) n + tail = n
  s0 : seen src = true
  pr : ∀ x, x < head → ∀ k, sf (q x) ≤ k → k < sf (q x + 1) → (sc k : Int) = av ∨ seen (sc k) = true

section
variable {n src L head tail : Nat} {av : Int} {sf sc q : Nat → Nat} {seen : Nat → Bool}

theorem seenN_upd {w : Nat} : seenN (updN seen w true) = updN (seenN seen) w 0 := by
  funext v
  by_cases e : v = w
  · subst e; simp [seenN, updN_same]
  · simp [seenN, updN_ne _ _ e]

theorem Bfs.start (hs : src < n) : Bfs n src L av sf sc (updN (fun _ => false) src true) (updN (fun _ => 0) 0 src) 0 1 := by
  have hf : ∀ k, free (seenN fun _ => false) k = k := fun k => by
    induction k with
    | zero => rfl
    | succ k ih => simp only [free]; rw [ih, if_pos (by simp [seenN])]
  refine ⟨by omega, fun x hx => ?_, fun v hv h => ?_, ?_, updN_same _ _ _, fun x hx => by omega⟩
  · obtain rfl : x = 0 := by omega
    rw [updN_same]
    exact ⟨hs, updN_same _ _ _, .zero⟩
  · by_cases e : v = src
    · exact ⟨0, by omega, by rw [updN_same, e]⟩
    · rw [updN_ne _ _ e] at h; simp at h
  · rw [seenN_upd]
    have := free_upd (num := seenN fun _ => false) (w := src) (x := 0) (by simp [seenN]) (by omega) n
    rw [hf, if_pos hs] at this
    exact this

/-- a new vertex -/
theorem Bfs.visit (h : Bfs n src L av sf sc seen q head tail) {u k : Nat} (hu : u < n) (hR : RV (Go1 sf sc) src av u) (h1 : sf u ≤ k) (h2 : k < sf (u + 1)) (hw : sc k < n) (hav : (sc k : Int) ≠ av) (hn : seen (sc k) = false) :
    tail < n ∧ Bfs n src L av sf sc (updN seen (sc k) true) (updN q tail (sc k)) head (tail + 1) := by
  have hfr := free_upd (num := seenN seen) (w := sc k) (x := 0) (by simp [seenN, hn]) (by omega) n
  rw [if_pos hw] at hfr
  have hlt : tail < n := by have := h.fr; omega
  have hq : ∀ x, x < tail → updN q tail (sc k) x = q x := fun x hx => updN_ne _ _ (by omega)
  have hsn : ∀ v, seen v = true → updN seen (sc k) true v = true := fun v hv => by
    by_cases e : v = sc k
    · rw [e, updN_same]
    · rw [updN_ne _ _ e]; exact hv
  refine ⟨hlt, by have := h.ht; omega, fun x hx => ?_, fun v hv hs => ?_, ?_, hsn _ h.s0, fun x hx k' h3 h4 => ?_⟩
  · by_cases e : x = tail
    · subst e; rw [updN_same]
      exact ⟨hw, updN_same _ _ _, .step hR ⟨k, h1, h2, rfl⟩ hav⟩
    · obtain ⟨q1, q2, q3⟩ := h.hq x (by omega)
      rw [hq x (by omega)]
      exact ⟨q1, hsn _ q2, q3⟩
  · by_cases e : v = sc k
    · exact ⟨tail, by omega, by rw [updN_same, e]⟩
    · rw [updN_ne _ _ e] at hs
      obtain ⟨x, h3, h4⟩ := h.hs v hv hs
      exact ⟨x, by omega, by rw [hq x h3]; exact h4⟩
  · rw [seenN_upd]
    have := h.fr
    omega
  · rw [hq x (by have := h.ht; omega)] at h3 h4
    rcases h.pr x hx k' h3 h4 with c | c
    · exact .inl c
    · exact .inr (hsn _ c)

/-- the head's vertex is done -/
theorem Bfs.next (h : Bfs n src L av sf sc seen q head tail) (ht : head < tail) (hall : ∀ k, sf (q head) ≤ k → k < sf (q head + 1) → (sc k : Int) = av ∨ seen (sc k) = true) : Bfs n src L av sf sc seen q (head + 1) tail :=
  ⟨ht, h.hq, h.hs, h.fr, h.s0, fun x hx k h1 h2 => by
    by_cases e : x = head
    · subst e; exact hall k h1 h2
    · exact h.pr x (by omega) k h1 h2⟩

theorem Bfs.over (G : Gr n L sf sc) (hs : src < n) (h : Bfs n src L av sf sc seen q tail tail) (v : Nat) (hv : v < n) : seen v = true ↔ RV (Go1 sf sc) src av v := by
  constructor
  · intro k
    obtain ⟨x, hx, rfl⟩ := h.hs v hv k
    exact (h.hq x hx).2.2
  · intro k
    have key : ∀ v, RV (Go1 sf sc) src av v → seen v = true ∧ v < n := by
      intro v k
      induction k with
      | zero => exact ⟨h.s0, hs⟩
      | step _ hG hne ih =>
        obtain ⟨k, h1, h2, rfl⟩ := hG
        obtain ⟨x, hx, e⟩ := h.hs _ ih.2 ih.1
        have hk : sc k < n := G.lt k (by have := G.top _ (show _ + 1 ≤ n from ih.2); omega)
        rw [← e] at h1 h2
        rcases h.pr x hx k h1 h2 with c | c
        · exact absurd c hne
        · exact ⟨c, hk⟩
    exact (key v k).1
end
end Go.Proofs.Qxb6602963a
