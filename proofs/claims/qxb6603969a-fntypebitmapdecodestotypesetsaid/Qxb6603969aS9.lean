import Derived.Test.Qxb6603969aS8
namespace Go.Proofs.Qxb6603969a
open Go.RowKit Go.Sort
set_option linter.unusedVariables false

def CPost (x y : Nat) (w : World) (e : Ending) (w' : World) : Prop :=
  ∃ m h : Nat, x ≤ m ∧ m < y ∧ h ≤ 2 ∧ e = .returned (.tuple #[.int .i64 m, .int .i64 h]) ∧ Below w.heap.size w w'

theorem Cnt.new (w : World) (t : TypeId) : Cnt (w.alloc (Obj.cells #[.int .i64 0] t)) w.heap.size 0 := ⟨by simp, by simp⟩

set_option maxHeartbeats 3200000 in
set_option maxRecDepth 1000000 in
theorem piv42 (b o cap x y n : Nat) (d : Array Int) (w : World) (hn : d.size = n) (hr : SRow w b o d) (hxy : 12 < y - x) (hy : y ≤ d.size) (hsz : d.size ≤ 1048576) :
    Calls Try.prog 42 #[.slice (some ⟨b, o, none⟩) n cap, .int .i64 x, .int .i64 y] w fun e w' => CPost x y w e w' := by
  subst hn
  have hb := hr.lt
  obtain ⟨i, hi⟩ : ∃ i, i = x + (y - x) / 4 := ⟨_, rfl⟩
  obtain ⟨j, hj⟩ : ∃ j, j = x + (y - x) / 4 * 2 := ⟨_, rfl⟩
  obtain ⟨k, hk⟩ : ∃ k, k = x + (y - x) / 4 * 3 := ⟨_, rfl⟩
  have e1 : (x : Int) + ((y : Int) - (x : Int)) / 4 = (i : Int) := by omega
  have e2 : (x : Int) + ((y : Int) - (x : Int)) / 4 * 2 = (j : Int) := by omega
  have e3 : (x : Int) + ((y : Int) - (x : Int)) / 4 * 3 = (k : Int) := by omega
  have hi1 : x < i ∧ i + 1 < y := by omega
  have hj1 : x < j ∧ j + 1 < y := by omega
  have hk1 : x < k ∧ k + 1 < y := by omega
  have HA : Aside (SRow (w.alloc (Obj.cells #[.int .i64 0] 3)) b o d ∧ Cnt (w.alloc (Obj.cells #[.int .i64 0] 3)) w.heap.size 0 ∧ Below w.heap.size w (w.alloc (Obj.cells #[.int .i64 0] 3))) :=
    ⟨hr.of_block (((Below.refl w.heap.size w).alloc (Nat.le_refl _) _).block b hb), Cnt.new _ _, (Below.refl w.heap.size w).alloc (Nat.le_refl _) _⟩
  clear hi hj hk hr
  have hbz : b ≠ w.heap.size := by omega
  by_cases h50 : 50 ≤ y - x
  · have h50z : decide ((50 : Int) ≤ (y : Int) - (x : Int)) = true := decide_eq_true (by omega)
    go_enter Try.func42, Try.ntmps42
    go_wp2_with fail
    generalize w.alloc (Obj.cells #[.int .i64 0] 3) = w0 at HA ⊢
    refine (madj53 b o cap d.size i w.heap.size 0 d _ rfl HA.out.1 (by omega) (by omega) HA.out.2.1 (by omega) hsz (by omega)).mono ?_
    rintro e w1 ⟨m1, s1, h1, hs1, rfl, hC1, hO1⟩
    have R1 : Aside (SRow w1 b o d ∧ Cnt w1 w.heap.size s1 ∧ Below w.heap.size w w1) := ⟨HA.out.1.only hO1 hbz, hC1, Only.below HA.out.2.2 hO1 (Nat.le_refl _) HA.out.2.2.size⟩
    have hm1 : x ≤ m1 ∧ m1 < y := by omega
    clear hC1 hO1 h1
    go_wp2_with fail
    refine (madj53 b o cap d.size j w.heap.size s1 d _ rfl R1.out.1 (by omega) (by omega) R1.out.2.1 (by omega) hsz (by omega)).mono ?_
    rintro e w2 ⟨m2, s2, h2, hs2, rfl, hC2, hO2⟩
    have R2 : Aside (SRow w2 b o d ∧ Cnt w2 w.heap.size s2 ∧ Below w.heap.size w w2) := ⟨R1.out.1.only hO2 hbz, hC2, Only.below R1.out.2.2 hO2 (Nat.le_refl _) R1.out.2.2.size⟩
    have hm2 : x ≤ m2 ∧ m2 < y := by omega
    clear hC2 hO2 h2
    go_wp2_with fail
    refine (madj53 b o cap d.size k w.heap.size s2 d _ rfl R2.out.1 (by omega) (by omega) R2.out.2.1 (by omega) hsz (by omega)).mono ?_
    rintro e w3 ⟨m3, s3, h3, hs3, rfl, hC3, hO3⟩
    have R3 : Aside (SRow w3 b o d ∧ Cnt w3 w.heap.size s3 ∧ Below w.heap.size w w3) := ⟨R2.out.1.only hO3 hbz, hC3, Only.below R2.out.2.2 hO3 (Nat.le_refl _) R2.out.2.2.size⟩
    have hm3 : x ≤ m3 ∧ m3 < y := by omega
    clear hC3 hO3 h3
    go_wp2_with fail
    refine (med54 b o cap d.size m1 m2 m3 w.heap.size s3 d _ rfl R3.out.1 (by omega) (by omega) (by omega) R3.out.2.1 (by omega) hsz (by omega)).mono ?_
    rintro e w9 ⟨m, s9, h9, hs9, rfl, hC9, hO9⟩
    have R9 : Aside (Cnt w9 w.heap.size s9 ∧ Below w.heap.size w w9) := ⟨hC9, Only.below R3.out.2.2 hO9 (Nat.le_refl _) R3.out.2.2.size⟩
    have hm : x ≤ m ∧ m < y := by omega
    have hcc := hC9.cell
    clear hC9 hO9 h9
    rcases Nat.eq_zero_or_pos s9 with h0 | h0
    · subst h0
      go_wp2
      go_ret2
      exact ⟨m, 1, hm.1, hm.2, by omega, rfl, R9.out.2⟩
    · by_cases h12 : s9 = 12
      · subst h12
        go_wp2
        go_ret2
        exact ⟨m, 2, hm.1, hm.2, by omega, rfl, R9.out.2⟩
      · have t0 : ((s9 : Int) == 0) = false := by simp; omega
        have t1 : ((s9 : Int) == 12) = false := by simp; omega
        go_wp2
        go_ret2
        exact ⟨m, 0, hm.1, hm.2, by omega, rfl, R9.out.2⟩
  · have h50z : decide ((50 : Int) ≤ (y : Int) - (x : Int)) = false := decide_eq_false (by omega)
    go_enter Try.func42, Try.ntmps42
    go_wp2_with fail
    generalize w.alloc (Obj.cells #[.int .i64 0] 3) = w0 at HA ⊢
    refine (med54 b o cap d.size i j k w.heap.size 0 d _ rfl HA.out.1 (by omega) (by omega) (by omega) HA.out.2.1 (by omega) hsz (by omega)).mono ?_
    rintro e w9 ⟨m, s9, h9, hs9, rfl, hC9, hO9⟩
    have R9 : Aside (Cnt w9 w.heap.size s9 ∧ Below w.heap.size w w9) := ⟨hC9, Only.below HA.out.2.2 hO9 (Nat.le_refl _) HA.out.2.2.size⟩
    have hm : x ≤ m ∧ m < y := by omega
    have hcc := hC9.cell
    clear hC9 hO9 h9
    rcases Nat.eq_zero_or_pos s9 with h0 | h0
    · subst h0
      go_wp2
      go_ret2
      exact ⟨m, 1, hm.1, hm.2, by omega, rfl, R9.out.2⟩
    · by_cases h12 : s9 = 12
      · subst h12
        go_wp2
        go_ret2
        exact ⟨m, 2, hm.1, hm.2, by omega, rfl, R9.out.2⟩
      · have t0 : ((s9 : Int) == 0) = false := by simp; omega
        have t1 : ((s9 : Int) == 12) = false := by simp; omega
        go_wp2
        go_ret2
        exact ⟨m, 0, hm.1, hm.2, by omega, rfl, R9.out.2⟩
end Go.Proofs.Qxb6603969a
