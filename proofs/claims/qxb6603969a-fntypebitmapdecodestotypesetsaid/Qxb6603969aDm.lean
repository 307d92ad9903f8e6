import Derived.Test.Qxb6603969aBm
namespace Go.Proofs.Qxb6603969a
set_option linter.unusedVariables false

/-- where the decoder stands: the bitmap from i on is of the windows from lo on, and nothing is listed from next up to there -/
structure Dec (S : Nat → Prop) (p : List Nat) (i lo next : Nat) : Prop where
  le : i ≤ p.length
  lo256 : lo ≤ 256
  seg : Seg S lo 256 (p.drop i)
  nx : next ≤ 256 * lo
  gap : ∀ t, next ≤ t → t < 256 * lo → ¬ S t

theorem Dec.start {S : Nat → Prop} {p : List Nat} (h : Seg S 0 256 p) : Dec S p 0 0 0 := ⟨Nat.zero_le _, by omega, by simpa using h, by omega, fun t _ _ => by omega⟩

theorem Dec.done {S : Nat → Prop} {p : List Nat} {lo next : Nat} (h : Dec S p p.length lo next) : ∀ t, next ≤ t → t < 65536 → ¬ S t := by
  have hs := h.seg
  rw [List.drop_length] at hs
  cases hs with
  | nil _ _ h1 h2 => exact fun t h3 h4 => if c : t < 256 * lo then h.gap t h3 c else h2 t (by omega) (by omega)

/-- the window that comes -/
structure Head (S : Nat → Prop) (p : List Nat) (i lo next w n : Nat) (f : Nat → Nat) : Prop where
  p0 : p.getD i 0 = w
  p1 : p.getD (i + 1) 0 = n
  pj : ∀ j, j < n → p.getD (i + 2 + j) 0 = f j
  low : lo ≤ w
  w256 : w < 256
  fits : i + 2 + n ≤ p.length
  win : Win S w n f
  nx : next ≤ 256 * w
  gap : ∀ t, next ≤ t → t < 256 * w → ¬ S t
  after : ∀ next', next' ≤ 256 * (w + 1) → (∀ t, next' ≤ t → t < 256 * (w + 1) → ¬ S t) → Dec S p (i + 2 + n) (w + 1) next'

theorem Dec.head {S : Nat → Prop} {p : List Nat} {i lo next : Nat} (h : Dec S p i lo next) (hi : i < p.length) : ∃ w n f, Head S p i lo next w n f := by
  have hs := h.seg
  generalize hq : p.drop i = q at hs
  have hget : ∀ k, p.getD (i + k) 0 = q.getD k 0 := fun k => by rw [← hq]; simp [List.getD_eq_getElem?_getD, List.getElem?_drop]
  have hlen : q.length = p.length - i := by rw [← hq]; simp
  cases hs with
  | nil _ _ h1 h2 => simp at hlen; omega
  | win _ _ w n f p' h1 h2 h3 h4 h5 =>
    have hl2 : (w :: n :: ((List.range n).map f ++ p')).length = n + p'.length + 2 := by simp
    rw [hl2] at hlen
    refine ⟨w, n, f, ⟨by simpa using hget 0, by simpa using hget 1, fun j hj => ?_, h1, h2, by omega, h4, ?_, fun t h6 h7 => ?_, fun next' h6 h7 => ?_⟩⟩
    · rw [Nat.add_assoc, hget (2 + j), Nat.add_comm 2 j]
      simp only [List.getD_eq_getElem?_getD, List.getElem?_cons_succ]
      rw [List.getElem?_append_left (by simpa using hj)]
      simp [hj]
    · have := h.nx; omega
    · by_cases c : t < 256 * lo
      · exact h.gap t h6 c
      · exact h3 t (by omega) h7
    · refine ⟨by omega, by omega, ?_, h6, h7⟩
      have : p.drop (i + 2 + n) = p' := by
        rw [Nat.add_assoc, ← List.drop_drop, hq, Nat.add_comm 2 n]
        show List.drop n ((List.range n).map f ++ p') = p'
        rw [List.drop_left' (by simp)]
      rw [this]
      exact h5

/-- within a window: up to pos all is read -/
structure Pos (S : Nat → Prop) (next pos : Nat) : Prop where
  nx : next ≤ pos
  gap : ∀ t, next ≤ t → t < pos → ¬ S t

theorem Head.pos {S : Nat → Prop} {p : List Nat} {i lo next w n : Nat} {f : Nat → Nat} (h : Head S p i lo next w n f) : Pos S next (w * 256) :=
  ⟨by have := h.nx; omega, fun t h1 h2 => h.gap t h1 (by omega)⟩

theorem Pos.hit {S : Nat → Prop} {next pos : Nat} (h : Pos S next pos) : Pos S (pos + 1) (pos + 1) := ⟨Nat.le_refl _, fun t h1 h2 => by omega⟩
theorem Pos.miss {S : Nat → Prop} {next pos : Nat} (h : Pos S next pos) (hs : ¬ S pos) : Pos S next (pos + 1) :=
  ⟨by have := h.nx; omega, fun t h1 h2 => if c : t = pos then c ▸ hs else h.gap t h1 (by omega)⟩

theorem Head.close {S : Nat → Prop} {p : List Nat} {i lo next next' w n : Nat} {f : Nat → Nat} (h : Head S p i lo next w n f) (k : Pos S next' (w * 256 + n * 8)) : Dec S p (i + 2 + n) (w + 1) next' := by
  have hn := h.win.n32
  refine h.after next' (by have := k.nx; omega) fun t h1 h2 => ?_
  by_cases c : t < w * 256 + n * 8
  · exact k.gap t h1 c
  · intro hS
    have e : t = w * 256 + (t - w * 256) / 8 * 8 + (t - w * 256) % 8 := by omega
    rw [e] at hS
    have := ((h.win.bits ((t - w * 256) / 8) ((t - w * 256) % 8) (by omega) (by omega)).1 hS).1
    omega
end Go.Proofs.Qxb6603969a
