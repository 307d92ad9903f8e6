import Derived.Test.Qxb6600487aParts
namespace Go.Proofs.Qxb6600487a
open Go.RowKit
set_option linter.unusedVariables false

theorem len29 (B : Bool) (D E F L : Int) (ea : Option Addr) (n c : Nat) (w : World) :
    Calls Try.prog 29 #[.agg #[.bool B, .int .i64 D, .int .i64 E, .int .i64 F, .int .i64 L, .slice ea n c, .slice none 0 0]] w fun r w' => r = .returned (.int .i64 n) ∧ Below w.heap.size w w' := by
  go_enter Try.func29, Try.ntmps29
  go_wp2
  go_ret
  exact ⟨rfl, (Below.refl _ _).alloc (Nat.le_refl _) _⟩

theorem at30 (B : Bool) (D E F L : Int) (eb n i : Nat) (b : Nat → Bool) (d e s x : Nat → Int) (w : World) (hi : i < n) (hn : n ≤ 16384) (hE : w.rowIs eb 64 (n * 2) (endCells b d e s x)) :
    Calls Try.prog 30 #[.agg #[.bool B, .int .i64 D, .int .i64 E, .int .i64 F, .int .i64 L, .slice (some ⟨eb, 0, none⟩) n n, .slice none 0 0], .int .i64 (i : Int)] w fun r w' =>
      r = .returned (.tuple #[.int .i64 (fst' (b i) (e i) (s i) (x i)), .int .i64 (lst' (b i) (d i) (e i) (s i) (x i))]) ∧ Below w.heap.size w w' := by
  have hlz : (i : Int) < (n : Int) := by omega
  have h0z : (0 : Int) ≤ (i : Int) := by omega
  have hlt := hE.lt
  have g0 : ∀ o, (w.alloc o).cell? ⟨eb, i * 2, none⟩ = some (.int .i64 (fst' (b i) (e i) (s i) (x i))) := fun o => by
    have := (hE.alloc o).cell (i := i * 2) (by omega)
    simp only [endCells] at this
    rw [if_pos (by omega), show (i * 2) / 2 = i by omega] at this
    exact this
  have g1 : ∀ o, (w.alloc o).cell? ⟨eb, i * 2 + 1, none⟩ = some (.int .i64 (lst' (b i) (d i) (e i) (s i) (x i))) := fun o => by
    have := (hE.alloc o).cell (i := i * 2 + 1) (by omega)
    simp only [endCells] at this
    rw [if_neg (by omega), show (i * 2 + 1) / 2 = i by omega] at this
    exact this
  clear hE
  go_enter Try.func30, Try.ntmps30
  go_wp2
  go_quiet (fail)
  go_wp2
  go_ret2
  exact ⟨rfl, below_drewN ((Below.refl _ _).alloc (Nat.le_refl _) _) _⟩

theorem at30' (B : Bool) (D E F L : Int) (eb n i : Nat) (b : Nat → Bool) (d e s x : Nat → Int) (w : World) (hi : i < n) (hn : n ≤ 16384) (hE : w.rowIs eb 64 (n * 2) (endCells b d e s x)) (f1 l1 : Int)
    (hf : fst' (b i) (e i) (s i) (x i) = f1) (hl : lst' (b i) (d i) (e i) (s i) (x i) = l1) :
    Calls Try.prog 30 #[.agg #[.bool B, .int .i64 D, .int .i64 E, .int .i64 F, .int .i64 L, .slice (some ⟨eb, 0, none⟩) n n, .slice none 0 0], .int .i64 (i : Int)] w fun r w' =>
      r = .returned (.tuple #[.int .i64 f1, .int .i64 l1]) ∧ Below w.heap.size w w' := by
  subst hf; subst hl
  exact at30 B D E F L eb n i b d e s x w hi hn hE

def hit (f : Nat → Int) (M : Int) : Nat → Bool
  | 0 => false
  | k + 1 => hit f M k || f k == M

theorem mx_le (f : Nat → Int) (n : Nat) : ∀ k, k < n → f k ≤ mx f n := by
  induction n with
  | zero => intro k hk; omega
  | succ n ih =>
    intro k hk
    simp only [mx]
    by_cases e : k = n
    · subst e; omega
    · have := ih k (by omega); omega

theorem hit_of (f : Nat → Int) (M : Int) (n k : Nat) (hk : k < n) (h : f k = M) : hit f M n = true := by
  induction n with
  | zero => omega
  | succ n ih =>
    simp only [hit, Bool.or_eq_true, beq_iff_eq]
    by_cases e : k = n
    · subst e; exact .inr h
    · exact .inl (ih (by omega))

theorem mx_hit (f : Nat → Int) (n : Nat) (hn : 0 < n) (h0 : ∀ k, k < n → 0 ≤ f k) : ∃ k, k < n ∧ f k = mx f n := by
  induction n with
  | zero => omega
  | succ n ih =>
    simp only [mx]
    by_cases hz : n = 0
    · subst hz; exact ⟨0, by omega, by have := h0 0 (by omega); simp only [mx]; omega⟩
    · obtain ⟨k, hk, e⟩ := ih (by omega) (fun k hk => h0 k (by omega))
      by_cases hle : f n ≤ mx f n
      · exact ⟨k, by omega, by omega⟩
      · exact ⟨n, by omega, by omega⟩

theorem hit_mx (f : Nat → Int) (n : Nat) (hn : 0 < n) (h0 : ∀ k, k < n → 0 ≤ f k) : hit f (mx f n) n = true := by
  obtain ⟨k, hk, e⟩ := mx_hit f n hn h0
  exact hit_of f _ n k hk e
end Go.Proofs.Qxb6600487a
