import Derived.Test.Qxb6602963aG12
import Derived.Test.Qxb6602963aG13
namespace Go.Proofs.Qxb6602963a
open Go.RowKit
set_option linter.unusedVariables false

/-- the law -/
theorem law5 (src : Int) (a1 a2 : Option Addr) (n1 n2 c1 c2 : Nat) (z1 z2 : Nat → Int) (w : World) (m1 : n1 ≤ maxLen) (m2 : n2 ≤ maxLen) (h1 : Reads w a1 n1 (fun i => .int .i32 (z1 i))) (h2 : Reads w a2 n2 (fun i => .int .i32 (z2 i)))
    (hb1 : ∀ i, i < n1 → -2147483648 ≤ z1 i ∧ z1 i ≤ 2147483647) (hb2 : ∀ i, i < n2 → -2147483648 ≤ z2 i ∧ z2 i ≤ 2147483647) (hsr : -9223372036854775808 ≤ src ∧ src ≤ 9223372036854775807) :
    Calls Try.prog 5 #[.int .i64 src, .slice a1 n1 c1, .slice a2 n2 c2] w fun e w' => e = .returned (.bool true) ∧ Below w.heap.size w w' := by
  unfold maxLen at m1 m2
  by_cases h : (n1 + n2 ≤ 1048576 ∧ n1 ≤ 4097 ∧ n2 ≤ 65536 ∧ 2 ≤ n1 ∧ 0 ≤ src ∧ src < (n1 : Int) - 1)
  · obtain ⟨_, t1, t2, t3, t4, t5⟩ := h
    obtain ⟨n, rfl⟩ : ∃ n, n1 = n + 1 := ⟨n1 - 1, by omega⟩
    obtain ⟨s, rfl⟩ : ∃ s : Nat, src = (s : Int) := ⟨src.toNat, by omega⟩
    obtain ⟨p1, o1, rfl, hc⟩ := h1 (by omega)
    exact law5m s p1 o1 c1 a2 n n2 c2 z1 z2 w (by omega) (by omega) t2 (by omega) hc h2 hb1 hb2
  · exact law5e src a1 a2 n1 n2 c1 c2 w (by omega) (by omega) hsr h
end Go.Proofs.Qxb6602963a
