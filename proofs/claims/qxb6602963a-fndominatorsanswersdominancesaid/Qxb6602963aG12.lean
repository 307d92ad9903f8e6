import Derived.Test.Qxb6602963aMz
namespace Go.Proofs.Qxb6602963a
open Go.RowKit
set_option linter.unusedVariables false

set_option maxHeartbeats 4000000 in
set_option maxRecDepth 100000 in
/-- the inputs that the law sets aside at once -/
theorem law5e (src : Int) (a1 a2 : Option Addr) (n1 n2 c1 c2 : Nat) (w : World) (m1 : n1 ≤ 9223372036854775807) (m2 : n2 ≤ 9223372036854775807) (hsr : -9223372036854775808 ≤ src ∧ src ≤ 9223372036854775807) (h : ¬ (n1 + n2 ≤ 1048576 ∧ n1 ≤ 4097 ∧ n2 ≤ 65536 ∧ 2 ≤ n1 ∧ 0 ≤ src ∧ src < (n1 : Int) - 1)) :
    Calls Try.prog 5 #[.int .i64 src, .slice a1 n1 c1, .slice a2 n2 c2] w fun e w' => e = .returned (.bool true) ∧ Below w.heap.size w w' := by
  by_cases t0 : n1 + n2 ≤ 1048576
  · have hd : decide (n1 + n2 ≤ 1048576) = true := by simpa using t0
    by_cases t1 : 4097 < n1
    · go_enter Try.func5, Try.ntmps5
      go_wp2_with fail
      refine (zz17 src a1 a2 n1 c1 n2 c2 w).mono ?_
      rintro r w1 ⟨rfl, rfl⟩
      rw [hd]
      go_wp2
      go_ret
      exact ⟨rfl, Below.refl _ _⟩
    by_cases t2 : 65536 < n2
    · go_enter Try.func5, Try.ntmps5
      go_wp2_with fail
      refine (zz17 src a1 a2 n1 c1 n2 c2 w).mono ?_
      rintro r w1 ⟨rfl, rfl⟩
      rw [hd]
      go_wp2
      go_ret
      exact ⟨rfl, Below.refl _ _⟩
    by_cases t3 : n1 < 2
    · go_enter Try.func5, Try.ntmps5
      go_wp2_with fail
      refine (zz17 src a1 a2 n1 c1 n2 c2 w).mono ?_
      rintro r w1 ⟨rfl, rfl⟩
      rw [hd]
      go_wp2
      go_ret
      exact ⟨rfl, Below.refl _ _⟩
    by_cases t4 : src < 0
    · go_enter Try.func5, Try.ntmps5
      go_wp2_with fail
      refine (zz17 src a1 a2 n1 c1 n2 c2 w).mono ?_
      rintro r w1 ⟨rfl, rfl⟩
      rw [hd]
      go_wp2
      go_ret
      exact ⟨rfl, Below.refl _ _⟩
    have t5 : (n1 : Int) - 1 ≤ src := by omega
    clear h
    go_enter Try.func5, Try.ntmps5
    go_wp2_with fail
    refine (zz17 src a1 a2 n1 c1 n2 c2 w).mono ?_
    rintro r w1 ⟨rfl, rfl⟩
    rw [hd]
    go_wp2
    go_ret
    exact ⟨rfl, Below.refl _ _⟩
  · have hd : decide (n1 + n2 ≤ 1048576) = false := by simpa using t0
    clear h
    go_enter Try.func5, Try.ntmps5
    go_wp2_with fail
    refine (zz17 src a1 a2 n1 c1 n2 c2 w).mono ?_
    rintro r w1 ⟨rfl, rfl⟩
    rw [hd]
    go_wp2
    go_ret
    exact ⟨rfl, Below.refl _ _⟩
end Go.Proofs.Qxb6602963a
