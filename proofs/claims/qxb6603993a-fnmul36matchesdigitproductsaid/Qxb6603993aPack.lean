import Derived.Test.Qxb6603993aDig
namespace Go.Proofs.Qxb6603993a
open Go.RowKit
set_option linter.unusedVariables false

theorem pack20 (Q : Nat) (hQ : Q < 10 ^ 36) (w : World) :
    Calls Try.prog 20 #[.agg (arr 36 fun i => .int .i64 (dig Q i : Int))] w fun e w' => e = .returned (.tuple #[.int .u64 (Q / 10 ^ 18 : Nat), .int .u64 (Q % 10 ^ 18 : Nat)]) ∧ Below w.heap.size w w' := by
  have HH : Aside (Q < 10 ^ 36) := hQ
  clear hQ
  have hrow : Aside ((w.alloc (.cells (arr 36 fun i => .int .i64 (dig Q i : Int)) 41)).rowIs w.heap.size 41 36 (fun i => .int .i64 (dig Q i : Int)) ∧ Below w.heap.size w (w.alloc (.cells (arr 36 fun i => .int .i64 (dig Q i : Int)) 41))) := ⟨arr_row _ _ _ _, (Below.refl _ _).alloc (Nat.le_refl _) _⟩
  go_enter Try.func20, Try.ntmps20
  go_wp2
  generalize (w.alloc (.cells (arr 36 fun i => .int .i64 (dig Q i : Int)) 41)) = W at *
  go_loopg [6, 4] 18 (fun g i v wr => ∃ k : Nat, k ≤ 18 ∧ g = 18 - k ∧ i = .int .i64 (35 - k : Int) ∧ v = .int .u64 (Q / 10 ^ (36 - k) : Nat) ∧ wr = W)
  case atStart => exact ⟨0, by omega, rfl, by simp, by rw [Nat.div_eq_of_lt (by simpa using HH.out)]; rfl, rfl⟩
  case round =>
    obtain ⟨k, hk, rfl, rfl, rfl, rfl⟩ := hrel
    by_cases hlt : k < 18
    · obtain ⟨K, hK⟩ : ∃ K, K = 35 - k := ⟨_, rfl⟩
      have e0 : (35 - (k : Int)) = (K : Int) := by omega
      have e1 := div_step Q K
      rw [show K + 1 = 36 - k by omega] at e1
      have e2 : Q / 10 ^ (36 - k) ≤ Q / 10 ^ 18 := Nat.div_le_div_left (Nat.pow_le_pow_right (by decide) (by omega)) (p10 _)
      have e22 : Q / 10 ^ K ≤ Q / 10 ^ 18 := Nat.div_le_div_left (Nat.pow_le_pow_right (by decide) (by omega)) (p10 _)
      have e3 : Q / 10 ^ 18 < 10 ^ 18 := by have := HH.out; omega
      have e4 := dig_lt Q K
      have hc := hrow.out.1.cell (i := K) (by omega)
      have hc' : wr.cell? ⟨w.heap.size, K, none⟩ = some (.int .i64 (dig Q K : Int)) := hc
      clear hc
      have g1 : (18 : Int) ≤ (K : Int) := by omega
      have g2 : K < 36 := by omega
      have EE : Aside (K = 35 - k ∧ Q / 10 ^ K = Q / 10 ^ (36 - k) * 10 + dig Q K ∧ Q / 10 ^ K < 1000000000000000000) := ⟨hK, e1, by omega⟩
      have d1 : ((Q / 10 ^ (36 - k) : Nat) : Int) * 10 + (dig Q K : Int) < 1000000000000000000 := by omega
      clear hK e1 e2 e3 e22
      rw [e0]
      clear e0
      generalize dig Q K = d at *
      generalize Q / 10 ^ (36 - k) = x at *
      go_wp2
      go_roundg (18 - (k + 1))
      case rel =>
        go_light
        obtain ⟨e1, e3, e4⟩ := EE.out
        refine ⟨k + 1, by omega, rfl, by congr 1; omega, ?_, rfl⟩
        rw [show 36 - (k + 1) = K by omega]
        congr 1
        omega
      case measure => go_light; omega
    · obtain rfl : k = 18 := by omega
      clear hlt
      have e3 : Q / 10 ^ 18 < 10 ^ 18 := by have := HH.out; omega
      have HE : Aside (Q / 10 ^ 18 < 10 ^ 18) := e3
      clear e3
      simp only [Nat.reduceSub]
      generalize hx : Q / 10 ^ 18 = x at *
      have HX : Aside (Q / 10 ^ 18 = x) := hx
      clear hx
      obtain ⟨wo, rfl⟩ : ∃ wo : World, wo = wr := ⟨_, rfl⟩
      go_wp2
      go_loopg [7, 5] 18 (fun g i v wr => ∃ k : Nat, k ≤ 18 ∧ g = 18 - k ∧ i = .int .i64 (17 - k : Int) ∧ v = .int .u64 (Q % 10 ^ 18 / 10 ^ (18 - k) : Nat) ∧ wr = wo)
      case atStart => exact ⟨0, by omega, rfl, by simp, by rw [Nat.div_eq_of_lt (Nat.mod_lt _ (p10 _))]; rfl, rfl⟩
      case round =>
        obtain ⟨k, hk, rfl, rfl, rfl, rfl⟩ := hrel
        by_cases hlt : k < 18
        · obtain ⟨K, hK⟩ : ∃ K, K = 17 - k := ⟨_, rfl⟩
          have e0 : (17 - (k : Int)) = (K : Int) := by omega
          have e1 := div_step (Q % 10 ^ 18) K
          rw [show K + 1 = 18 - k by omega] at e1
          have e5 : dig (Q % 10 ^ 18) K = dig Q K := by
            have := dig_low (Q / 10 ^ 18) (Q % 10 ^ 18) K (by omega)
            rw [Nat.mul_comm, Nat.div_add_mod] at this
            exact this.symm
          rw [e5] at e1
          have e2 : Q % 10 ^ 18 / 10 ^ (18 - k) ≤ Q % 10 ^ 18 := Nat.div_le_self _ _
          have e22 : Q % 10 ^ 18 / 10 ^ K ≤ Q % 10 ^ 18 := Nat.div_le_self _ _
          have e3 : Q % 10 ^ 18 < 10 ^ 18 := Nat.mod_lt _ (p10 _)
          have e4 := dig_lt Q K
          have hc := hrow.out.1.cell (i := K) (by omega)
          have hc' : wr.cell? ⟨w.heap.size, K, none⟩ = some (.int .i64 (dig Q K : Int)) := hc
          clear hc
          have g1 : (0 : Int) ≤ (K : Int) := by omega
          have g2 : K < 36 := by omega
          have EE : Aside (K = 17 - k ∧ Q % 10 ^ 18 / 10 ^ K = Q % 10 ^ 18 / 10 ^ (18 - k) * 10 + dig Q K) := ⟨hK, e1⟩
          have d1 : ((Q % 10 ^ 18 / 10 ^ (18 - k) : Nat) : Int) * 10 + (dig Q K : Int) < 1000000000000000000 := by omega
          clear hK e1 e2 e3 e22 e5
          rw [e0]
          clear e0
          generalize dig Q K = d at *
          generalize Q % 10 ^ 18 / 10 ^ (18 - k) = y at *
          go_wp2
          go_roundg (18 - (k + 1))
          case rel =>
            go_light
            obtain ⟨e1, e3⟩ := EE.out
            refine ⟨k + 1, by omega, rfl, by congr 1; omega, ?_, rfl⟩
            rw [show 18 - (k + 1) = K by omega]
            congr 1
            omega
          case measure => go_light; omega
        · obtain rfl : k = 18 := by omega
          clear hlt
          simp only [Nat.reduceSub, Nat.pow_zero, Nat.div_one]
          generalize hy : Q % 10 ^ 18 = y at *
          have HY : Aside (Q % 10 ^ 18 = y) := hy
          clear hy
          go_wp2
          refine bodyPost_ret (v := .tuple #[.int .u64 (x : Int), .int .u64 (y : Int)]) (by simp [results, Try.results20, go_sem]) rfl ?_
          refine ⟨?_, hrow.out.2⟩
          rw [HX.out, HY.out]
end Go.Proofs.Qxb6603993a
