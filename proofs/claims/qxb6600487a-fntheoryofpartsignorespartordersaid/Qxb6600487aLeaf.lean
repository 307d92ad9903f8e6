import Derived.Test.Qxb6600487aMem
namespace Go.Proofs.Qxb6600487a
open Go.RowKit
set_option linter.unusedVariables false

def AnyBool (w : World) (e : Ending) (w' : World) : Prop := ∃ b, e = .returned (.bool b) ∧ w' = w

theorem bytes23 (a0 a1 a2 a3 a4 : Option Addr) (n0 n1 n2 n3 n4 c0 c1 c2 c3 c4 : Nat) (w : World)
    (h0 : n0 ≤ maxLen) (h1 : n1 ≤ maxLen) (h2 : n2 ≤ maxLen) (h3 : n3 ≤ maxLen) (h4 : n4 ≤ maxLen) :
    Calls Try.prog 23 #[.slice a0 n0 c0, .slice a1 n1 c1, .slice a2 n2 c2, .slice a3 n3 c3, .slice a4 n4 c4] w fun e w' => AnyBool w e w' := by
  unfold maxLen at h0 h1 h2 h3 h4
  go_enter Try.func23, Try.ntmps23
  go_wp2
  all_goals (go_ret; exact ⟨_, rfl, rfl⟩)

theorem bytes31 (a0 a1 a2 a3 a4 : Option Addr) (n0 n1 n2 n3 n4 c0 c1 c2 c3 c4 : Nat) (w : World)
    (h0 : n0 ≤ maxLen) (h1 : n1 ≤ maxLen) (h2 : n2 ≤ maxLen) (h3 : n3 ≤ maxLen) (h4 : n4 ≤ maxLen) :
    Calls Try.prog 31 #[.slice a0 n0 c0, .slice a1 n1 c1, .slice a2 n2 c2, .slice a3 n3 c3, .slice a4 n4 c4] w fun e w' => AnyBool w e w' := by
  unfold maxLen at h0 h1 h2 h3 h4
  go_enter Try.func31, Try.ntmps31
  go_wp2
  all_goals (go_ret; exact ⟨_, rfl, rfl⟩)

/-- the first and the last round of a part -/
def fst' (b : Bool) (e : Int) (s x : Int) : Int := if b then (if s = 3 then x else e) else e + 1
def lst' (b : Bool) (d e : Int) (s x : Int) : Int := if b then (if s = 3 then x else e) else e + d + 1

theorem ends39 (b : Bool) (d m e s x : Int) (w : World) (hd0 : 0 ≤ d) (hd : d < 1073741824) (he0 : 0 ≤ e) (he : e < 1073741824) :
    Calls Try.prog 39 #[.agg #[.bool b, .int .i64 d, .int .i64 m, .int .i64 e, .int .u8 s, .int .i64 x, .slice none 0 0]] w fun r w' =>
      r = .returned (.tuple #[.int .i64 (fst' b e s x), .int .i64 (lst' b d e s x)]) ∧ Below w.heap.size w w' := by
  cases b with
  | false =>
    go_enter Try.func39, Try.ntmps39
    go_wp2
    go_quiet (fail)
    go_wp2
    go_ret2
    exact ⟨by simp [fst', lst'], below_drewN ((Below.refl _ _).alloc (Nat.le_refl _) _) _⟩
  | true =>
    by_cases h3 : s = 3
    · go_enter Try.func39, Try.ntmps39
      go_wp2
      go_quiet (fail)
      go_wp2
      go_ret2
      exact ⟨by simp [fst', lst', h3], below_drewN ((Below.refl _ _).alloc (Nat.le_refl _) _) _⟩
    · go_enter Try.func39, Try.ntmps39
      go_wp2
      go_quiet (fail)
      go_wp2
      go_ret2
      exact ⟨by simp [fst', lst', h3], below_drewN ((Below.refl _ _).alloc (Nat.le_refl _) _) _⟩

def DomOk (n0 n1 n2 n3 n4 : Nat) (d e x : Nat → Int) : Prop :=
  n1 = n0 ∧ n2 = n0 ∧ n3 = n0 ∧ n4 = n0 ∧ ∀ i, i < n0 → (0 ≤ d i ∧ d i < 1073741824) ∧ (0 ≤ e i ∧ e i < 1073741824) ∧ (0 ≤ x i ∧ x i < 1073741824)

def DomPost (n0 n1 n2 n3 n4 : Nat) (d e x : Nat → Int) (w : World) (r : Ending) (w' : World) : Prop :=
  ∃ b, r = .returned (.bool b) ∧ w' = w ∧ (b = true → DomOk n0 n1 n2 n3 n4 d e x)

set_option maxHeartbeats 1000000 in
theorem dom24 (a0 a1 a2 a3 a4 : Option Addr) (n0 n1 n2 n3 n4 c0 c1 c2 c3 c4 : Nat) (d e x : Nat → Int) (w : World)
    (h0 : n0 ≤ maxLen) (h1 : n1 ≤ maxLen) (h2 : n2 ≤ maxLen) (h3 : n3 ≤ maxLen) (h4 : n4 ≤ maxLen)
    (r1 : Reads w a1 n1 (fun i => .int .i64 (d i))) (r2 : Reads w a2 n2 (fun i => .int .i64 (e i))) (r4 : Reads w a4 n4 (fun i => .int .i64 (x i))) :
    Calls Try.prog 24 #[.slice a0 n0 c0, .slice a1 n1 c1, .slice a2 n2 c2, .slice a3 n3 c3, .slice a4 n4 c4] w fun r w' => DomPost n0 n1 n2 n3 n4 d e x w r w' := by
  unfold maxLen at h0 h1 h2 h3 h4
  by_cases e1 : n1 = n0
  · by_cases e2 : n2 = n0
    · by_cases e3 : n3 = n0
      · by_cases e4 : n4 = n0
        · subst e1; subst e2; subst e3; subst e4
          clear h1 h2 h3 h4
          go_enter Try.func24, Try.ntmps24
          go_wp2
          go_loopg [12] n4 (fun g i wr => ∃ k : Nat, k ≤ n4 ∧ g = n4 - k ∧ i = .int .i64 k ∧ wr = w ∧ ∀ i, i < k → (0 ≤ d i ∧ d i < 1073741824) ∧ (0 ≤ e i ∧ e i < 1073741824) ∧ (0 ≤ x i ∧ x i < 1073741824))
          case atStart => exact ⟨0, Nat.zero_le _, rfl, rfl, rfl, fun i hi => absurd hi (by omega)⟩
          case round =>
            obtain ⟨k, hk, rfl, rfl, rfl, hall⟩ := hrel
            have A : Aside (∀ i, i < k → (0 ≤ d i ∧ d i < 1073741824) ∧ (0 ≤ e i ∧ e i < 1073741824) ∧ (0 ≤ x i ∧ x i < 1073741824)) := hall
            clear hall
            by_cases hlt : k < n4
            · obtain ⟨b1, o1, rfl, G1⟩ := r1 (by omega)
              obtain ⟨b2, o2, rfl, G2⟩ := r2 (by omega)
              obtain ⟨b4, o4, rfl, G4⟩ := r4 (by omega)
              have g1 : wr.cell? ⟨b1, o1 + k, none⟩ = some (.int .i64 (d k)) := G1 k hlt
              have g2 : wr.cell? ⟨b2, o2 + k, none⟩ = some (.int .i64 (e k)) := G2 k hlt
              have g4 : wr.cell? ⟨b4, o4 + k, none⟩ = some (.int .i64 (x k)) := G4 k hlt
              clear r1 r2 r4 G1 G2 G4
              generalize hd : d k = dk at g1
              generalize he : e k = ek at g2
              generalize hx : x k = xk at g4
              have B : Aside (d k = dk ∧ e k = ek ∧ x k = xk) := ⟨hd, he, hx⟩
              clear hd he hx
              by_cases d0 : dk < 0
              · go_wp2
                go_ret
                exact ⟨false, rfl, rfl, fun h => by cases h⟩
              by_cases d1 : 1073741824 ≤ dk
              · go_wp2
                go_ret
                exact ⟨false, rfl, rfl, fun h => by cases h⟩
              by_cases e0 : ek < 0
              · go_wp2
                go_ret
                exact ⟨false, rfl, rfl, fun h => by cases h⟩
              by_cases e1 : 1073741824 ≤ ek
              · go_wp2
                go_ret
                exact ⟨false, rfl, rfl, fun h => by cases h⟩
              by_cases x0 : xk < 0
              · go_wp2
                go_ret
                exact ⟨false, rfl, rfl, fun h => by cases h⟩
              by_cases x1 : 1073741824 ≤ xk
              · go_wp2
                go_ret
                exact ⟨false, rfl, rfl, fun h => by cases h⟩
              go_wp2
              go_roundg (n4 - (k + 1))
              case rel =>
                go_light
                refine ⟨k + 1, by omega, rfl, by go_num, rfl, fun i hi => ?_⟩
                by_cases hik : i = k
                · obtain ⟨h1, h2, h3⟩ := B.out
                  subst hik
                  rw [h1, h2, h3]
                  omega
                · exact A.out i (by omega)
              case measure => go_light; omega
            · obtain rfl : k = n4 := by omega
              go_wp2
              go_ret
              exact ⟨true, rfl, rfl, fun _ => ⟨rfl, rfl, rfl, rfl, A.out⟩⟩
        · go_enter Try.func24, Try.ntmps24
          go_wp2
          go_ret
          exact ⟨false, rfl, rfl, fun h => by cases h⟩
      · go_enter Try.func24, Try.ntmps24
        go_wp2
        go_ret
        exact ⟨false, rfl, rfl, fun h => by cases h⟩
    · go_enter Try.func24, Try.ntmps24
      go_wp2
      go_ret
      exact ⟨false, rfl, rfl, fun h => by cases h⟩
  · go_enter Try.func24, Try.ntmps24
    go_wp2
    go_ret
    exact ⟨false, rfl, rfl, fun h => by cases h⟩
end Go.Proofs.Qxb6600487a
