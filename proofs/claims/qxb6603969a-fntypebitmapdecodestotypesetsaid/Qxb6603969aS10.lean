import Derived.Test.Qxb6603969aS9
import Derived.Test.Qxb6603969aLay
import Derived.Sort.Walk7
namespace Go.Proofs.Qxb6603969a
open Go.RowKit Go.Sort
set_option linter.unusedVariables false

theorem len38 (x : Nat) (hx : x < 4611686018427387904) (w : World) : Calls Try.prog 38 #[.int .u64 (x : Int)] w fun e w' => e = .returned (.int .i64 (bitsLen x : Nat)) ∧ w' = w := by
  have h := Any.bits_Len Try.lays125 (x : Int) w (by omega) (by omega)
  rw [Int.toNat_natCast, bitLen_eq _ (by omega)] at h
  exact h

/-- nextPowerOfTwo -/
theorem pow51 (n : Nat) (hn0 : 0 < n) (hn : n ≤ 1048576) (w : World) : ∃ M : Nat, 1 ≤ M ∧ M ≤ 2 * n ∧ ∀ w, Calls Try.prog 51 #[.int .i64 n] w fun e w' => e = .returned (.int .u64 (M : Int)) ∧ w' = w := by
  refine ⟨1 <<< bitsLen n, by rw [Nat.one_shiftLeft]; exact Nat.two_pow_pos _, by rw [Nat.one_shiftLeft]; exact two_pow_bitsLen_le hn0, fun w => ?_⟩
  have hk : bitsLen n ≤ 62 := (bitsLen_le_iff n 62).2 (by omega)
  have hp := wrap_two_pow (bitsLen n) hk
  have hLen : ∀ w, Calls Try.prog 38 #[.int .u64 (n : Int)] w fun e w' => e = .returned (.int .i64 (bitsLen n : Nat)) ∧ w' = w := fun w => len38 n (by omega) w
  go_enter Try.func51, Try.ntmps51
  go_wp2_with (go_at_call 38; refine (hLen _).mono ?_; rintro e w' ⟨rfl, rfl⟩)
  go_ret
  exact ⟨rfl, rfl⟩

/-- a random number's cell -/
structure Rnd (w : World) (rb X : Nat) : Prop where
  cell : w.cell? ⟨rb, 0, none⟩ = some (.int .u64 X)
  free : w.frozen? ⟨rb, 0, none⟩ = false
  lt : X < 18446744073709551616

def NPost (rb : Nat) (w : World) (e : Ending) (w' : World) : Prop := ∃ R : Nat, e = .returned (.int .u64 R) ∧ Rnd w' rb R ∧ Only rb w w'

theorem next52 (rb X : Nat) (w : World) (h : Rnd w rb X) : Calls Try.prog 52 #[.pointer (some ⟨rb, 0, none⟩)] w fun e w' => NPost rb w e w' := by
  have hX := h.lt
  have hc := h.cell
  have hf := h.free
  obtain ⟨A, hA⟩ : ∃ A : Nat, A = X ^^^ (X * 8192 % 18446744073709551616) := ⟨_, rfl⟩
  obtain ⟨B, hB⟩ : ∃ B : Nat, B = A ^^^ (A / 128) := ⟨_, rfl⟩
  obtain ⟨C, hC⟩ : ∃ C : Nat, C = B ^^^ (B * 131072 % 18446744073709551616) := ⟨_, rfl⟩
  have lA : A < 18446744073709551616 := by rw [hA]; exact Nat.xor_lt_two_pow (n := 64) (by omega) (by omega)
  have lB : B < 18446744073709551616 := by rw [hB]; exact Nat.xor_lt_two_pow (n := 64) (by omega) (by omega)
  have lC : C < 18446744073709551616 := by rw [hC]; exact Nat.xor_lt_two_pow (n := 64) (by omega) (by omega)
  have e1 : bits .xor .u64 (X : Int) (IntKind.u64.wrap ((X : Int) * 8192)) = (A : Int) := by
    rw [IntKind.wrap_u64, show ((X : Int) * 8192 % 18446744073709551616) = ((X * 8192 % 18446744073709551616 : Nat) : Int) by omega, bits_xor_u64_nat _ _ hX (by omega), hA]
  have e2 : bits .xor .u64 (A : Int) ((A : Int) / 128) = (B : Int) := by
    rw [show ((A : Int) / 128) = ((A / 128 : Nat) : Int) by omega, bits_xor_u64_nat _ _ lA (by omega), hB]
  have e3 : bits .xor .u64 (B : Int) (IntKind.u64.wrap ((B : Int) * 131072)) = (C : Int) := by
    rw [IntKind.wrap_u64, show ((B : Int) * 131072 % 18446744073709551616) = ((B * 131072 % 18446744073709551616 : Nat) : Int) by omega, bits_xor_u64_nat _ _ lB (by omega), hC]
  have LC : Aside (C < 18446744073709551616) := lC
  clear hA hB hC lC h
  have hss : ∀ v v', (w.setCell ⟨rb, 0, none⟩ v).setCell ⟨rb, 0, none⟩ v' = w.setCell ⟨rb, 0, none⟩ v' := setCell_setCell w rb 0
  go_enter Try.func52, Try.ntmps52
  go_wp2
  go_region
  all_goals go_wp2
  all_goals go_region
  all_goals go_wp2
  all_goals go_region
  all_goals go_wp2
  go_ret
  exact ⟨C, rfl, ⟨(World.cell?_setCell_same _ _ _ hc), by simp [hf], LC.out⟩, by first | exact (((Only.refl rb w).setCell (.inl rfl) _).drewN 3) | exact (((Only.refl rb w).setCell (.inl rfl) _).drew) | exact ((Only.refl rb w).setCell (.inl rfl) _)⟩
end Go.Proofs.Qxb6603969a
