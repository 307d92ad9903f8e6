import Derived.Test.Qxb6602963aG1
namespace Go.Proofs.Qxb6602963a
open Go.RowKit
set_option linter.unusedVariables false

theorem zz17 (x : Int) (a0 a1 : Option Addr) (n0 c0 n1 c1 : Nat) (w : World) : Calls Try.prog 17 #[.int .i64 x, .slice a0 n0 c0, .slice a1 n1 c1] w fun e w' => e = .returned (.bool (decide (n0 + n1 ≤ 1048576))) ∧ w' = w := by
  by_cases h0 : n0 ≤ 1048576
  · by_cases h1 : n0 + n1 ≤ 1048576
    · have z1 : (n0 : Int) + (n1 : Int) ≤ 1048576 := by omega
      rw [decide_eq_true h1]
      go_enter Try.func17, Try.ntmps17
      go_wp2
      go_ret
      exact ⟨rfl, rfl⟩
    · rw [decide_eq_false h1]
      by_cases h2 : n1 ≤ 1048576
      · have z1 : 1048576 < (n0 : Int) + (n1 : Int) := by omega
        go_enter Try.func17, Try.ntmps17
        go_wp2
        go_ret
        exact ⟨rfl, rfl⟩
      · go_enter Try.func17, Try.ntmps17
        go_wp2
        go_ret
        exact ⟨rfl, rfl⟩
  · have h1 : ¬ (n0 + n1 ≤ 1048576) := by omega
    rw [decide_eq_false h1]
    go_enter Try.func17, Try.ntmps17
    go_wp2
    go_ret
    exact ⟨rfl, rfl⟩

/-- a row of numbers read at block b from o on -/
def Row (w : World) (b o n : Nat) (f : Nat → Nat) : Prop := ∀ i, i < n → w.cell? ⟨b, o + i, none⟩ = some (.int .i32 (f i : Int))

theorem Row.below {w w' : World} {b o n : Nat} {f : Nat → Nat} (h : Row w b o n f) (hb : Below w.heap.size w w') : Row w' b o n f := fun i hi => cell_later hb (h i hi)

/-- an edge is found -/
theorem edge22 (b1 o1 c1 b2 o2 c2 n L u v : Nat) (pf pr : Nat → Nat) (w : World) (W : Well n L pf pr) (hn2 : n ≤ 4096) (hL : L ≤ 65536) (h1 : Row w b1 o1 (n + 1) pf) (h2 : Row w b2 o2 L pr) (hv : v < n) (hu : u < n) (hE : Fits n pf pr u v) :
    Calls Try.prog 22 #[.slice (some ⟨b1, o1, none⟩) (n + 1) c1, .slice (some ⟨b2, o2, none⟩) L c2, .int .i32 u, .int .i32 v] w fun e w' => e = .returned (.bool true) ∧ Below w.heap.size w w' := by
  obtain ⟨k0, e1, e2, e3⟩ := hE
  have htop : pf (v + 1) ≤ L := by have := W.le (v + 1) n (by omega) (Nat.le_refl _); rw [W.t] at this; exact this
  obtain ⟨F, hF⟩ : ∃ F : Nat → Nat, ∀ i, F i = pf i := ⟨_, fun _ => rfl⟩
  obtain ⟨R, hR⟩ : ∃ R : Nat → Nat, ∀ i, R i = pr i := ⟨_, fun _ => rfl⟩
  have hFL : F v ≤ L := by rw [hF]; omega
  have hFL1 : F (v + 1) ≤ L := by rw [hF]; exact htop
  have hk1 : F v ≤ k0 ∧ k0 < F (v + 1) := by rw [hF, hF]; exact ⟨e1, e2⟩
  have hc1 : ∀ i, i < n + 1 → w.cell? ⟨b1, o1 + i, none⟩ = some (.int .i32 (F i : Int)) := fun i hi => by rw [hF]; exact h1 i hi
  have HW : Aside ((∀ i, R i = pr i) ∧ pr k0 = u ∧ Row w b2 o2 L pr) := ⟨hR, e3, h2⟩
  clear hF hR e1 e2 e3 h1 h2 htop W
  go_enter Try.func22, Try.ntmps22
  go_wp2
  go_loopg [9] (k0 - F v) (fun g s9 wr => ∃ k : Nat, F v ≤ k ∧ k ≤ k0 ∧ g = k0 - k ∧ s9 = .int .i32 k ∧ Below w.heap.size w wr)
  case atStart => exact ⟨F v, Nat.le_refl _, hk1.1, rfl, rfl, Below.refl _ _⟩
  case round =>
    obtain ⟨k, hk2, hk3, rfl, rfl, hbel⟩ := hrel
    have hc1' : ∀ i, i < n + 1 → wr.cell? ⟨b1, o1 + i, none⟩ = some (.int .i32 (F i : Int)) := fun i hi => cell_later hbel (hc1 i hi)
    have g0 : wr.cell? ⟨b2, o2 + k, none⟩ = some (.int .i32 (R k : Int)) := by rw [HW.out.1]; exact cell_later hbel (HW.out.2.2 k (by omega))
    have B : Aside (Below w.heap.size w wr) := hbel
    clear hbel
    by_cases c : R k = u
    · have t1 : ((R k : Int) == (u : Int)) = true := by simp; omega
      go_wp2
      go_ret
      exact ⟨rfl, B.out⟩
    · have t1 : ((R k : Int) == (u : Int)) = false := by simp; omega
      have hne : k ≠ k0 := by rintro rfl; exact c (by rw [HW.out.1, HW.out.2.1])
      go_wp2
      go_roundg (k0 - (k + 1))
      case rel => go_light; exact ⟨k + 1, by omega, by omega, rfl, by go_num, B.out⟩
      case measure => go_light; omega
end Go.Proofs.Qxb6602963a
