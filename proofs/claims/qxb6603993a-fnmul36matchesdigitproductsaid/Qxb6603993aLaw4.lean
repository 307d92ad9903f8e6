import Derived.Test.Qxb6603993aMulW
namespace Go.Proofs.Qxb6603993a
open Go.RowKit
set_option linter.unusedVariables false

/-- both sides of the law at two coefficients that pass zzIn36: the same parts -/
theorem both (xh xl yh yl : Nat) (xe ye : Int) (xn yn : Bool) (hx : In36 xh xl = true) (hy : In36 yh yl = true) :
    ∃ (a b : Nat) (c : Int) (n : Bool), (∀ w, Calls Try.prog 14 #[dec xh xl xe xn, dec yh yl ye yn] w fun r w' => r = .returned (dec a b c n) ∧ Below w.heap.size w w') ∧
      (∀ w, Calls Try.prog 15 #[.int .u64 xh, .int .u64 xl, .int .i32 xe, .bool xn, .int .u64 yh, .int .u64 yl, .int .i32 ye, .bool yn] w fun r w' => r = .returned (.tuple #[.int .u64 a, .int .u64 b, .int .i32 c, .bool n]) ∧ Below w.heap.size w w') := by
  by_cases h0 : xh = 0 ∨ yh = 0
  · refine ⟨0, 0, 0, false, fun w => mul0 xh xl yh yl xe ye xn yn h0 w, fun w => (mod0 xh xl yh yl xe ye xn yn h0 w).mono ?_⟩
    rintro r w' ⟨rfl, rfl⟩
    exact ⟨rfl, Below.refl _ _⟩
  · have hx' : xh = 0 ∨ (10 ^ 17 ≤ xh ∧ xh < 10 ^ 18 ∧ xl < 10 ^ 18) := of_decide_eq_true hx
    have hy' : yh = 0 ∨ (10 ^ 17 ≤ yh ∧ yh < 10 ^ 18 ∧ yl < 10 ^ 18) := of_decide_eq_true hy
    obtain ⟨x1, x2, x3⟩ := hx'.resolve_left fun h => h0 (Or.inl h)
    obtain ⟨y1, y2, y3⟩ := hy'.resolve_left fun h => h0 (Or.inr h)
    exact ⟨_, _, _, _, fun w => mul14 xh xl yh yl _ _ _ xe ye xn yn ⟨x1, x2, x3, rfl⟩ ⟨y1, y2, y3, rfl⟩ rfl w, fun w => mod15 xh xl yh yl _ _ _ xe ye xn yn ⟨x1, x2, x3, rfl⟩ ⟨y1, y2, y3, rfl⟩ rfl w⟩

set_option maxHeartbeats 1000000 in
set_option maxRecDepth 100000 in
theorem law4 (xh xl yh yl : Nat) (xe ye : Int) (xn yn : Bool) (w : World) :
    Calls Try.prog 4 #[.int .u64 xh, .int .u64 xl, .int .i32 xe, .bool xn, .int .u64 yh, .int .u64 yl, .int .i32 ye, .bool yn] w fun e w' => e = .returned (.bool true) ∧ Below w.heap.size w w' := by
  by_cases hx : In36 xh xl = true
  · by_cases hy : In36 yh yl = true
    · obtain ⟨a, b, c, n, hm, hd⟩ := both xh xl yh yl xe ye xn yn hx hy
      have HM : Aside ((∀ w, Calls Try.prog 14 #[dec xh xl xe xn, dec yh yl ye yn] w fun r w' => r = .returned (dec a b c n) ∧ Below w.heap.size w w') ∧
        (∀ w, Calls Try.prog 15 #[.int .u64 xh, .int .u64 xl, .int .i32 xe, .bool xn, .int .u64 yh, .int .u64 yl, .int .i32 ye, .bool yn] w fun r w' => r = .returned (.tuple #[.int .u64 a, .int .u64 b, .int .i32 c, .bool n]) ∧ Below w.heap.size w w')) := ⟨hm, hd⟩
      clear hm hd
      go_enter Try.func4, Try.ntmps4
      go_wp2_with fail
      refine (in12 xh xl w).mono ?_
      rintro r w1 ⟨rfl, hw⟩
      have hw2 := hw.symm
      subst hw2
      clear hw
      rw [hx]
      go_wp2_with fail
      refine (in12 yh yl w).mono ?_
      rintro r w1 ⟨rfl, hw⟩
      have hw2 := hw.symm
      subst hw2
      clear hw
      rw [hy]
      go_wp2_with fail
      refine (make13 xh xl xe xn w).mono ?_
      rintro r w1 ⟨rfl, hb1⟩
      have B1 : Aside (Below w.heap.size w w1) := hb1
      clear hb1
      go_wp2_with fail
      refine (make13 yh yl ye yn w1).mono ?_
      rintro r w2 ⟨rfl, hb2⟩
      have B2 : Aside (Below w.heap.size w w2) := below_step B1.out hb2
      clear hb2 B1
      go_wp2_with fail
      refine (HM.out.1 w2).mono ?_
      rintro r w3 ⟨rfl, hb3⟩
      have B3 : Aside (Below w.heap.size w w3) := below_step B2.out hb3
      clear hb3 B2
      unfold dec
      go_wp2_with fail
      refine (HM.out.2 _).mono ?_
      rintro r w4 ⟨rfl, hb4⟩
      have B4 : Aside (Below w.heap.size w w4) := below_step (B3.out.alloc B3.out.size _) hb4
      have c0 : w4.cell? ⟨w3.heap.size, 0, none⟩ = some (.int .u64 a) := cell_later hb4 (by simp)
      have c1 : w4.cell? ⟨w3.heap.size, 1, none⟩ = some (.int .u64 b) := cell_later hb4 (by simp)
      have c2 : w4.cell? ⟨w3.heap.size, 2, none⟩ = some (.int .i32 c) := cell_later hb4 (by simp)
      have c3 : w4.cell? ⟨w3.heap.size, 3, none⟩ = some (.bool n) := cell_later hb4 (by simp)
      clear hb4 B3
      go_wp2_with fail
      refine (same16 a b c n a b c n rfl rfl rfl rfl w4).mono ?_
      rintro r w5 ⟨rfl, hb5⟩
      have B5 : Aside (Below w.heap.size w w5) := below_step B4.out hb5
      clear hb5 B4
      go_wp2
      go_ret
      exact ⟨rfl, B5.out⟩
    · have hy' : In36 yh yl = false := by simpa using hy
      go_enter Try.func4, Try.ntmps4
      go_wp2_with fail
      refine (in12 xh xl w).mono ?_
      rintro r w1 ⟨rfl, hw⟩
      have hw2 := hw.symm
      subst hw2
      clear hw
      rw [hx]
      go_wp2_with fail
      refine (in12 yh yl w).mono ?_
      rintro r w1 ⟨rfl, hw⟩
      have hw2 := hw.symm
      subst hw2
      clear hw
      rw [hy']
      go_wp2
      go_ret
      exact ⟨rfl, Below.refl _ _⟩
  · have hx' : In36 xh xl = false := by simpa using hx
    go_enter Try.func4, Try.ntmps4
    go_wp2_with fail
    refine (in12 xh xl w).mono ?_
    rintro r w1 ⟨rfl, hw⟩
    have hw2 := hw.symm
    subst hw2
    clear hw
    rw [hx']
    go_wp2
    go_ret
    exact ⟨rfl, Below.refl _ _⟩
end Go.Proofs.Qxb6603993a
