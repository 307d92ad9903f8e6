import Derived.Test.Qxb6602963aMem
import Derived.Test.Qxb6602963aRch
import Derived.CellFam
namespace Go.Proofs.Qxb6602963a
open Go.RowKit
set_option linter.unusedVariables false

theorem below_drewN {B : Nat} {w wr : World} (h : Below B w wr) (n : Nat) : Below B w (wr.drewN n) := ⟨h.os, h.tape, h.output, h.size, h.block⟩

/-- zzGraphOK's answer -/
def GPost (n L : Nat) (Z1 Z2 : Nat → Int) (w : World) (e : Ending) (w' : World) : Prop :=
  ∃ β : Bool, e = .returned (.bool β) ∧ (β = true → Z1 0 = 0 ∧ Z1 n = L ∧ (∀ v, v < n → Z1 v ≤ Z1 (v + 1)) ∧ ∀ k, k < L → 0 ≤ Z2 k ∧ Z2 k < n) ∧ Below w.heap.size w w'

theorem graph18 (b1 o1 c1 : Nat) (a2 : Option Addr) (n L c2 : Nat) (Z1 Z2 : Nat → Int) (w : World) (hn : 1 ≤ n) (hn2 : n ≤ 4096) (hL : L ≤ 65536)
    (h1 : ∀ i, i < n + 1 → w.cell? ⟨b1, o1 + i, none⟩ = some (.int .i32 (Z1 i))) (h2 : Reads w a2 L (fun i => .int .i32 (Z2 i)))
    (hb1 : ∀ i, i < n + 1 → -2147483648 ≤ Z1 i ∧ Z1 i ≤ 2147483647) (hb2 : ∀ i, i < L → -2147483648 ≤ Z2 i ∧ Z2 i ≤ 2147483647) :
    Calls Try.prog 18 #[.int .i64 n, .slice (some ⟨b1, o1, none⟩) (n + 1) c1, .slice a2 L c2] w fun e w' => GPost n L Z1 Z2 w e w' := by
  have bad : ∀ w', Below w.heap.size w w' → GPost n L Z1 Z2 w (.returned (.bool false)) w' := fun w' hb => ⟨false, rfl, fun h => by simp at h, hb⟩
  have BAD : Aside (∀ w', Below w.heap.size w w' → GPost n L Z1 Z2 w (.returned (.bool false)) w') := bad
  have H2 : Aside (Reads w a2 L (fun i => .int .i32 (Z2 i))) := h2
  have HB2 : Aside (∀ i, i < L → -2147483648 ≤ Z2 i ∧ Z2 i ≤ 2147483647) := hb2
  have hbn := hb1 n (by omega)
  clear bad h2 hb1 hb2
  by_cases e0 : Z1 0 = 0
  · by_cases e1 : Z1 n = L
    · have E01 : Aside (Z1 0 = 0 ∧ Z1 n = L) := ⟨e0, e1⟩
      go_enter Try.func18, Try.ntmps18
      go_wp2
      clear e0 e1
      go_loopg [7] n (fun g s7 wr => ∃ v : Nat, v ≤ n ∧ g = n - v ∧ s7 = .int .i64 v ∧ (∀ x, x < v → Z1 x ≤ Z1 (x + 1)) ∧ Below w.heap.size w wr)
      case atStart => exact ⟨0, Nat.zero_le _, rfl, rfl, fun x hx => by omega, Below.refl _ _⟩
      case round =>
        obtain ⟨v, hv, rfl, rfl, hm, hbel⟩ := hrel
        by_cases hlt : v < n
        · obtain ⟨G, hG⟩ : ∃ G : Nat → Int, ∀ t, G t = Z1 t := ⟨_, fun _ => rfl⟩
          have hc : ∀ t, t < n + 1 → wr.cell? ⟨b1, o1 + t, none⟩ = some (.int .i32 (G t)) := fun t ht => by rw [hG]; exact cell_later hbel (h1 t ht)
          have A : Aside ((∀ x, x < v → Z1 x ≤ Z1 (x + 1)) ∧ Below w.heap.size w wr ∧ ∀ t, G t = Z1 t) := ⟨hm, hbel, hG⟩
          clear hm hbel hG
          go_wp2
          go_quiet (fail)
          go_wp2
          · go_ret
            exact BAD.out _ (below_drewN A.out.2.1 _)
          · go_roundg (n - (v + 1))
            case rel =>
              go_light
              refine ⟨v + 1, by omega, rfl, by go_num, fun x hx => ?_, below_drewN A.out.2.1 _⟩
              by_cases c : x = v
              · subst c
                have : G x ≤ G (x + 1) := by omega
                rw [A.out.2.2, A.out.2.2] at this
                exact this
              · exact A.out.1 x (by omega)
            case measure => go_light; omega
        · obtain rfl : v = n := by omega
          have A : Aside ((∀ x, x < v → Z1 x ≤ Z1 (x + 1)) ∧ Below w.heap.size w wr) := ⟨hm, hbel⟩
          clear hm hbel
          go_wp2
          obtain ⟨wo, hwo⟩ : ∃ wo : World, wo = wr := ⟨_, rfl⟩
          go_loopg [8] L (fun g s8 wr => ∃ k : Nat, k ≤ L ∧ g = L - k ∧ s8 = .int .i64 k ∧ (∀ x, x < k → 0 ≤ Z2 x ∧ Z2 x < v) ∧ Below w.heap.size w wr)
          case atStart => exact ⟨0, Nat.zero_le _, rfl, rfl, fun x hx => by omega, A.out.2⟩
          case round =>
            clear hwo
            obtain ⟨k, hk, rfl, rfl, hm, hbel⟩ := hrel
            by_cases hkl : k < L
            · obtain ⟨b2, o2, rfl, hc2⟩ := H2.out (by omega)
              obtain ⟨z, hz⟩ : ∃ z, z = Z2 k := ⟨_, rfl⟩
              have hzb : -2147483648 ≤ z ∧ z ≤ 2147483647 := by rw [hz]; exact HB2.out k hkl
              have g0 : wr.cell? ⟨b2, o2 + k, none⟩ = some (.int .i32 z) := by rw [hz]; exact cell_later hbel (hc2 k hkl)
              have B : Aside ((∀ x, x < k → 0 ≤ Z2 x ∧ Z2 x < v) ∧ Below w.heap.size w wr ∧ z = Z2 k) := ⟨hm, hbel, hz⟩
              clear hm hbel hz hc2
              by_cases c1 : z < 0
              · have t1 : decide (z < 0) = true := decide_eq_true c1
                go_wp2
                go_ret
                exact BAD.out _ B.out.2.1
              · have t1 : decide (z < 0) = false := decide_eq_false c1
                by_cases c2 : (v : Int) ≤ z
                · have t2 : decide ((v : Int) ≤ z) = true := decide_eq_true c2
                  go_wp2
                  go_ret
                  exact BAD.out _ B.out.2.1
                · have t2 : decide ((v : Int) ≤ z) = false := decide_eq_false c2
                  go_wp2
                  go_roundg (L - (k + 1))
                  case rel =>
                    go_light
                    refine ⟨k + 1, by omega, rfl, by go_num, fun x hx => ?_, B.out.2.1⟩
                    by_cases c : x = k
                    · subst c; rw [← B.out.2.2]; omega
                    · exact B.out.1 x (by omega)
                  case measure => go_light; omega
            · obtain rfl : k = L := by omega
              have B : Aside ((∀ x, x < k → 0 ≤ Z2 x ∧ Z2 x < v) ∧ Below w.heap.size w wr) := ⟨hm, hbel⟩
              clear hm hbel
              go_wp2
              go_ret
              exact ⟨true, rfl, fun _ => ⟨E01.out.1, E01.out.2, A.out.1, B.out.1⟩, B.out.2⟩
    · have e1' : (Z1 n == (L : Int)) = false := by simp; exact e1
      have e1'' : (Z1 n != (L : Int)) = true := by simp; exact e1
      go_enter Try.func18, Try.ntmps18
      go_wp2
      go_ret
      exact BAD.out _ (Below.refl _ _)
  · have e0' : (Z1 0 != 0) = true := by simp; exact e0
    go_enter Try.func18, Try.ntmps18
    go_wp2
    go_ret
    exact BAD.out _ (Below.refl _ _)
end Go.Proofs.Qxb6602963a
