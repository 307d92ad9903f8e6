namespace Go.Proofs.Qxb6603969a
set_option linter.unusedVariables false

/-- one window of a strict bitmap: n octets f 0 .. whose bits are just S on the window -/
structure Win (S : Nat → Prop) (w n : Nat) (f : Nat → Nat) : Prop where
  n1 : 1 ≤ n
  n32 : n ≤ 32
  lt : ∀ j, f j < 256
  last : f (n - 1) ≠ 0
  bits : ∀ j bit, j < 32 → bit < 8 → (S (w * 256 + j * 8 + bit) ↔ j < n ∧ (f j).testBit (7 - bit) = true)

/-- a strict bitmap of S on the windows lo .. hi-1 -/
inductive Seg (S : Nat → Prop) : Nat → Nat → List Nat → Prop
  | nil (lo hi : Nat) : lo ≤ hi → (∀ t, 256 * lo ≤ t → t < 256 * hi → ¬ S t) → Seg S lo hi []
  | win (lo hi w n : Nat) (f : Nat → Nat) (p : List Nat) : lo ≤ w → w < 256 → (∀ t, 256 * lo ≤ t → t < 256 * w → ¬ S t) → Win S w n f → Seg S (w + 1) hi p → Seg S lo hi (w :: n :: ((List.range n).map f ++ p))

theorem Seg.weaken {S : Nat → Prop} {lo lo' hi : Nat} {p : List Nat} (hl : lo ≤ lo') (hS : ∀ t, 256 * lo ≤ t → t < 256 * lo' → ¬ S t) (h : Seg S lo' hi p) : Seg S lo hi p := by
  cases h with
  | nil _ _ h1 h2 => exact .nil _ _ (by omega) fun t h3 h4 => if h : t < 256 * lo' then hS t h3 h else h2 t (by omega) h4
  | win _ _ w n f p h1 h2 h3 h4 h5 => exact .win _ _ w n f p (by omega) h2 (fun t h6 h7 => if h : t < 256 * lo' then hS t h6 h else h3 t (by omega) h7) h4 h5

theorem Seg.append {S : Nat → Prop} {lo hi hi2 : Nat} {p q : List Nat} (h : Seg S lo hi p) (k : Seg S hi hi2 q) : Seg S lo hi2 (p ++ q) := by
  induction h with
  | nil _ _ h1 h2 => exact k.weaken h1 h2
  | win _ _ w n f p h1 h2 h3 h4 h5 ih =>
    have := ih k
    have e : (w :: n :: ((List.range n).map f ++ p)) ++ q = w :: n :: ((List.range n).map f ++ (p ++ q)) := by simp
    rw [e]
    exact .win _ _ w n f _ h1 h2 h3 h4 this

/-- the inner loop: the bits of the types i0 .. i-1, all of one window -/
structure Inn (T : Nat → Nat) (N i0 i win : Nat) (f : Nat → Nat) : Prop where
  le0 : i0 ≤ i
  le1 : i ≤ N
  lt : ∀ j, f j < 256
  same : ∀ k, i0 ≤ k → k < i → T k / 256 = win
  bits : ∀ j bit, j < 32 → bit < 8 → ((f j).testBit (7 - bit) = true ↔ ∃ k, i0 ≤ k ∧ k < i ∧ T k = win * 256 + j * 8 + bit)

theorem Inn.start (T : Nat → Nat) (N i0 win : Nat) (h : i0 ≤ N) : Inn T N i0 i0 win (fun _ => 0) :=
  ⟨Nat.le_refl _, h, fun _ => by omega, fun k h1 h2 => by omega, fun j bit h1 h2 => by simp; intro k h3 h4; omega⟩

theorem shift_pow (r : Nat) (h : r < 8) : 128 >>> r = 2 ^ (7 - r) := by
  have : r = 0 ∨ r = 1 ∨ r = 2 ∨ r = 3 ∨ r = 4 ∨ r = 5 ∨ r = 6 ∨ r = 7 := by omega
  rcases this with rfl | rfl | rfl | rfl | rfl | rfl | rfl | rfl <;> rfl

theorem Inn.step {T : Nat → Nat} {N i0 i win : Nat} {f : Nat → Nat} (h : Inn T N i0 i win f) (hi : i < N) (hw : T i / 256 = win) :
    Inn T N i0 (i + 1) win (fun j => if j = T i % 256 / 8 then f j ||| 128 >>> (T i % 256 % 8) else f j) := by
  refine ⟨by have := h.le0; omega, hi, fun j => ?_, fun k h1 h2 => ?_, fun j bit hj hb => ?_⟩
  · show (if _ then _ else _) < 256
    split
    · exact Nat.or_lt_two_pow (n := 8) (h.lt j) (by rw [shift_pow _ (by omega)]; exact Nat.pow_lt_pow_right (by omega) (by omega))
    · exact h.lt j
  · by_cases e : k = i
    · subst e; exact hw
    · exact h.same k h1 (by omega)
  · have ex : (∃ k, i0 ≤ k ∧ k < i + 1 ∧ T k = win * 256 + j * 8 + bit) ↔ (∃ k, i0 ≤ k ∧ k < i ∧ T k = win * 256 + j * 8 + bit) ∨ T i = win * 256 + j * 8 + bit := by
      constructor
      · rintro ⟨k, h1, h2, h3⟩
        by_cases e : k = i
        · subst e; exact .inr h3
        · exact .inl ⟨k, h1, by omega, h3⟩
      · rintro (⟨k, h1, h2, h3⟩ | h3)
        · exact ⟨k, h1, by omega, h3⟩
        · exact ⟨i, h.le0, by omega, h3⟩
    rw [ex, ← h.bits j bit hj hb]
    have hb' : T i = win * 256 + j * 8 + bit ↔ (j = T i % 256 / 8 ∧ bit = T i % 256 % 8) := by omega
    rw [hb']
    show (if _ then _ else _ : Nat).testBit _ = true ↔ _
    split
    · rename_i e
      rw [Nat.testBit_or, shift_pow _ (by omega), Nat.testBit_two_pow]
      simp only [Bool.or_eq_true, decide_eq_true_eq]
      constructor
      · rintro (h1 | h1)
        · exact .inl h1
        · exact .inr ⟨e, by omega⟩
      · rintro (h1 | ⟨_, h1⟩)
        · exact .inl h1
        · exact .inr (by omega)
    · rename_i e
      simp [e]

/-- the types listed -/
def Has (T : Nat → Nat) (N t : Nat) : Prop := ∃ k, k < N ∧ T k = t

theorem testBit_ne {x b : Nat} (h : x.testBit b = true) : x ≠ 0 := by rintro rfl; simp at h

theorem Inn.done {T : Nat → Nat} {N i0 i win : Nat} {f : Nat → Nat} (h : Inn T N i0 i win f) (hlt : i0 < i) (hs : ∀ a b, a ≤ b → b < N → T a ≤ T b) (hbefore : ∀ k, k < i0 → T k / 256 < win) (hend : i = N ∨ T i / 256 ≠ win) :
    Win (Has T N) win (T (i - 1) % 256 / 8 + 1) f := by
  have hl := h.same (i - 1) (by omega) (by omega)
  have hle := h.le1
  have key : ∀ j bit, j < 32 → bit < 8 → (Has T N (win * 256 + j * 8 + bit) ↔ ∃ k, i0 ≤ k ∧ k < i ∧ T k = win * 256 + j * 8 + bit) := by
    intro j bit hj hb
    constructor
    · rintro ⟨k, h1, h2⟩
      refine ⟨k, ?_, ?_, h2⟩
      · by_cases c : k < i0
        · have := hbefore k c; omega
        · omega
      · by_cases c : k < i
        · exact c
        · exfalso
          rcases hend with e | e
          · omega
          · have h3 := hs (i - 1) i (by omega) (by omega)
            have h4 := hs i k (by omega) h1
            have h5 : T i / 256 = win := by omega
            exact e h5
    · rintro ⟨k, _, h1, h2⟩
      exact ⟨k, by omega, h2⟩
  refine ⟨by omega, by omega, h.lt, ?_, fun j bit hj hb => ?_⟩
  · refine testBit_ne (b := 7 - T (i - 1) % 256 % 8) ((h.bits _ _ (by omega) (by omega)).2 ⟨i - 1, by omega, by omega, by omega⟩)
  · rw [key j bit hj hb, h.bits j bit hj hb]
    constructor
    · rintro ⟨k, h1, h2, h3⟩
      refine ⟨?_, k, h1, h2, h3⟩
      have := hs k (i - 1) (by omega) (by omega)
      omega
    · exact fun h => h.2

/-- the outer loop -/
structure Out (T : Nat → Nat) (N i : Nat) (p : List Nat) : Prop where
  le : i ≤ N
  len : p.length ≤ 34 * i
  seg : ∃ hi, hi ≤ 256 ∧ Seg (Has T N) 0 hi p ∧ (∀ k, k < i → T k / 256 < hi) ∧ ∀ k, i ≤ k → k < N → hi ≤ T k / 256

theorem Out.start (T : Nat → Nat) (N : Nat) : Out T N 0 [] := ⟨Nat.zero_le _, by simp, 0, by omega, .nil _ _ (Nat.le_refl _) fun t _ _ => by omega, fun k _ => by omega, fun k _ _ => Nat.zero_le _⟩

theorem Out.before {T : Nat → Nat} {N i0 : Nat} {p : List Nat} (h : Out T N i0 p) (hi : i0 < N) : ∀ k, k < i0 → T k / 256 < T i0 / 256 := by
  obtain ⟨hi', _, _, h1, h2⟩ := h.seg
  intro k hk
  have := h1 k hk
  have := h2 i0 (Nat.le_refl _) hi
  omega

theorem Out.step {T : Nat → Nat} {N i0 i : Nat} {f : Nat → Nat} {p : List Nat} (h : Out T N i0 p) (k : Inn T N i0 i (T i0 / 256) f) (hlt : i0 < i) (hs : ∀ a b, a ≤ b → b < N → T a ≤ T b) (hT : ∀ k, k < N → T k < 65536) (hend : i = N ∨ T i / 256 ≠ T i0 / 256) :
    Out T N i (p ++ (T i0 / 256 :: (T (i - 1) % 256 / 8 + 1) :: (List.range (T (i - 1) % 256 / 8 + 1)).map f)) := by
  have hin : i0 < N := by have := k.le1; omega
  have hW := k.done hlt hs (h.before hin) hend
  obtain ⟨hi, hh, hseg, h1, h2⟩ := h.seg
  have hw := h2 i0 (Nat.le_refl _) hin
  have hw2 := hT i0 hin
  refine ⟨k.le1, ?_, T i0 / 256 + 1, by omega, ?_, fun q hq => ?_, fun q hq1 hq2 => ?_⟩
  · have := h.len
    simp
    omega
  · refine hseg.append ?_
    have := Seg.win (S := Has T N) hi (T i0 / 256 + 1) (T i0 / 256) _ f [] hw (by omega) (fun t h3 h4 => ?_) hW (.nil _ _ (Nat.le_refl _) fun t _ _ => by omega)
    · simpa using this
    · rintro ⟨q, hq, rfl⟩
      by_cases c : q < i0
      · have := h1 q c; omega
      · have := hs i0 q (by omega) hq; omega
  · by_cases c : q < i0
    · have := h1 q c; omega
    · have := k.same q (by omega) hq; omega
  · rcases hend with e | e
    · omega
    · have h3 := hs i0 i (by omega) (by omega)
      have h4 := hs i q hq1 hq2
      omega

theorem Out.fin {T : Nat → Nat} {N : Nat} {p : List Nat} (h : Out T N N p) : Seg (Has T N) 0 256 p := by
  obtain ⟨hi, hh, hseg, h1, h2⟩ := h.seg
  have := hseg.append (.nil hi 256 hh fun t h3 h4 => ?_)
  · simpa using this
  · rintro ⟨q, hq, rfl⟩
    have := h1 q hq
    omega
end Go.Proofs.Qxb6603969a
