import Derived.Test.Qxb6603969aS12
namespace Go.Proofs.Qxb6603969a
open Go.RowKit Go.Sort
set_option linter.unusedVariables false

theorem bitsLen_small {n : Nat} (h : n ≤ 1048576) : bitsLen n ≤ 100 := (bitsLen_le_iff n 100).2 (Nat.lt_of_le_of_lt h (by decide))

theorem sort36 (b o cap n : Nat) (d : Array Int) (w : World) (hn : d.size = n) (hr : SRow w b o d) (hsz : d.size ≤ 1048576) :
    Calls Try.prog 36 #[.slice (some ⟨b, o, none⟩) n cap] w fun e w' => DPost b o 0 d.size d w e w' := by
  subst hn
  have hl : ∀ w, Calls Try.prog 38 #[.int .u64 (d.size : Int)] w fun e w' => e = .returned (.int .i64 (bitsLen d.size : Nat)) ∧ w' = w := fun w => len38 d.size (by omega) w
  have hk := bitsLen_small hsz
  have hc := pdq37 (d.size + 1) b o cap 0 d.size (bitsLen d.size) d.size d w (by omega) rfl hr (Nat.zero_le _) (Nat.le_refl _) hsz hk (.inl rfl)
  rw [show ((0 : Nat) : Int) = 0 from rfl] at hc
  generalize bitsLen d.size = k at hl hk hc
  clear hr
  go_enter Try.func36, Try.ntmps36
  go_wp2_with (go_at_call 38; refine (hl _).mono ?_; rintro e w' ⟨rfl, rfl⟩)
  go_wp2_with (go_at_call 37; refine hc.mono ?_; rintro e w1 ⟨rfl, hD⟩)
  go_end0
  exact ⟨rfl, hD⟩

theorem ins39_nil (w : World) : Calls Try.prog 39 #[.slice none 0 0, .int .i64 0, .int .i64 0] w fun e w' => e = .returned (.tuple #[]) ∧ w' = w := by
  go_enter Try.func39, Try.ntmps39
  go_wp2
  go_loopg [6] 0 (fun g vi wr => vi = .int .i64 1 ∧ wr = w)
  case atStart => exact ⟨rfl, rfl⟩
  case round =>
    obtain ⟨rfl, rfl⟩ := hrel
    go_wp2
    go_end0
    exact ⟨rfl, rfl⟩

set_option maxRecDepth 100000 in
theorem pdq37_nil (k : Nat) (w : World) : Calls Try.prog 37 #[.slice none 0 0, .int .i64 0, .int .i64 0, .int .i64 k] w fun e w' => e = .returned (.tuple #[]) ∧ w' = w := by
  go_enter Try.func37, Try.ntmps37
  go_wp2
  go_loopg [1, 2, 3, 8, 9] 0 (fun g s1 s2 s3 s8 s9 wr => s1 = .int .i64 0 ∧ s2 = .int .i64 0 ∧ s3 = .int .i64 k ∧ s8 = .bool true ∧ s9 = .bool true ∧ wr = w)
  case atStart => exact ⟨rfl, rfl, rfl, rfl, rfl, rfl⟩
  case round =>
    obtain ⟨rfl, rfl, rfl, rfl, rfl, rfl⟩ := hrel
    go_wp2_with (go_at_call 39; refine (ins39_nil _).mono ?_; rintro e w1 ⟨rfl, rfl⟩)
    (try simp only [Exit.inBlock, Exit.then]); refine bodyPost_ret (results_none rfl _ _ _) rfl ?_
    exact ⟨rfl, rfl⟩

theorem sort36_nil (w : World) : Calls Try.prog 36 #[.slice none 0 0] w fun e w' => e = .returned (.tuple #[]) ∧ w' = w := by
  have hl : ∀ w, Calls Try.prog 38 #[.int .u64 0] w fun e w' => e = .returned (.int .i64 (bitsLen 0 : Nat)) ∧ w' = w := fun w => len38 0 (by omega) w
  generalize bitsLen 0 = k at hl
  go_enter Try.func36, Try.ntmps36
  go_wp2_with (go_at_call 38; refine (hl _).mono ?_; rintro e w' ⟨rfl, rfl⟩)
  go_wp2_with (go_at_call 37; refine (pdq37_nil _ _).mono ?_; rintro e w1 ⟨rfl, rfl⟩)
  go_end0
  exact ⟨rfl, rfl⟩
end Go.Proofs.Qxb6603969a
