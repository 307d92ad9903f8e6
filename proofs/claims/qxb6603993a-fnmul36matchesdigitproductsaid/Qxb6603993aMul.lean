import Derived.Test.Qxb6603993aMod
namespace Go.Proofs.Qxb6603993a
open Go.RowKit
set_option linter.unusedVariables false

def dec (h l : Nat) (e : Int) (n : Bool) : Value := .agg #[.int .u64 h, .int .u64 l, .int .i32 e, .bool n]

theorem below_drewN {B : Nat} {w w' : World} (h : Below B w w') (n : Nat) : Below B w (w'.drewN n) := ⟨h.os, h.tape, h.output, h.size, h.block⟩

theorem make13 (h l : Nat) (e : Int) (n : Bool) (w : World) : Calls Try.prog 13 #[.int .u64 h, .int .u64 l, .int .i32 e, .bool n] w fun r w' => r = .returned (dec h l e n) ∧ Below w.heap.size w w' := by
  go_enter Try.func13, Try.ntmps13
  go_wp2
  exact bodyPost_ret (v := dec h l e n) (by simp [results, Try.results13, go_sem, dec]) rfl ⟨rfl, ((Below.refl _ _).alloc (Nat.le_refl _) _)⟩

theorem isz25 (h l : Nat) (e : Int) (n : Bool) (w : World) : Calls Try.prog 25 #[dec h l e n] w fun r w' => r = .returned (.bool ((h : Int) == 0)) ∧ Below w.heap.size w w' := by
  unfold dec
  go_enter Try.func25, Try.ntmps25
  go_wp2
  go_ret
  exact ⟨rfl, (Below.refl _ _).alloc (Nat.le_refl _) _⟩

theorem parts21 (h l : Nat) (e : Int) (n : Bool) (w : World) : Calls Try.prog 21 #[dec h l e n] w fun r w' => r = .returned (.tuple #[.int .u64 h, .int .u64 l, .int .i32 e, .bool n]) ∧ Below w.heap.size w w' := by
  unfold dec
  go_enter Try.func21, Try.ntmps21
  go_wp2_with fail
  go_quiet (fail)
  go_wp2
  exact bodyPost_ret (v := .tuple #[.int .u64 h, .int .u64 l, .int .i32 e, .bool n]) (by simp [results, Try.results21, go_sem]) rfl ⟨rfl, below_drewN ((Below.refl _ _).alloc (Nat.le_refl _) _) _⟩

def In36 (h l : Nat) : Bool := decide (h = 0 ∨ (10 ^ 17 ≤ h ∧ h < 10 ^ 18 ∧ l < 10 ^ 18))

theorem in36_true {h l : Nat} (hh : h = 0 ∨ (10 ^ 17 ≤ h ∧ h < 10 ^ 18 ∧ l < 10 ^ 18)) : In36 h l = true := decide_eq_true hh
theorem in36_false {h l : Nat} (hh : ¬ (h = 0 ∨ (10 ^ 17 ≤ h ∧ h < 10 ^ 18 ∧ l < 10 ^ 18))) : In36 h l = false := decide_eq_false hh

theorem in12 (h l : Nat) (w : World) : Calls Try.prog 12 #[.int .u64 h, .int .u64 l] w fun r w' => r = .returned (.bool (In36 h l)) ∧ w' = w := by
  by_cases h0 : h = 0
  · have h0' : ((h : Int) == 0) = true := by rw [h0]; rfl
    have HH : Aside (h = 0) := h0
    clear h0
    go_enter Try.func12, Try.ntmps12
    go_wp2
    go_ret
    refine ⟨?_, rfl⟩
    rw [in36_true (Or.inl HH.out)]
    rfl
  · have h0' : ((h : Int) == 0) = false := beq_eq_false_iff_ne.2 (by omega)
    have HH : Aside (h ≠ 0) := h0
    clear h0
    go_enter Try.func12, Try.ntmps12
    by_cases h1 : (100000000000000000 : Int) ≤ h
    · by_cases h2 : (h : Int) < 1000000000000000000
      · by_cases h3 : (l : Int) < 1000000000000000000
        · go_wp2
          go_ret
          refine ⟨?_, rfl⟩
          rw [in36_true (Or.inr ⟨by omega, by omega, by omega⟩)]
          rfl
        · go_wp2
          go_ret
          refine ⟨?_, rfl⟩
          rw [in36_false (by have := HH.out; omega)]
          rfl
      · go_wp2
        go_ret
        refine ⟨?_, rfl⟩
        rw [in36_false (by have := HH.out; omega)]
        rfl
    · go_wp2
      go_ret
      refine ⟨?_, rfl⟩
      rw [in36_false (by have := HH.out; omega)]
      rfl

theorem same16 (h l : Nat) (e : Int) (n : Bool) (h' l' : Nat) (e' : Int) (n' : Bool) (hh : h = h') (hl : l = l') (he : e = e') (hn : n = n') (w : World) : Calls Try.prog 16 #[dec h l e n, .int .u64 h', .int .u64 l', .int .i32 e', .bool n'] w fun r w' => r = .returned (.bool true) ∧ Below w.heap.size w w' := by
  subst hh hl he hn
  unfold dec
  go_enter Try.func16, Try.ntmps16
  go_wp2_with fail
  refine (parts21 h l e n _).mono ?_
  rintro r w1 ⟨rfl, hb⟩
  have HB : Aside (Below w.heap.size w w1) := below_step ((Below.refl _ _).alloc (Nat.le_refl _) _) hb
  clear hb
  go_wp2
  go_ret
  exact ⟨by simp, HB.out⟩

def RoundPost (Q : Nat) (up : Bool) (e : Int) (n : Bool) (w : World) (r : Ending) (w' : World) : Prop :=
  r = .returned (dec ((rnd Q up e wrap32).1 / 10 ^ 18) ((rnd Q up e wrap32).1 % 10 ^ 18) (rnd Q up e wrap32).2 n) ∧ Below w.heap.size w w'

theorem round_post {Q a b : Nat} {up : Bool} {e e' : Int} {n : Bool} {w w' : World} {r : Ending} (ha : (rnd Q up e wrap32).1 / 10 ^ 18 = a) (hb : (rnd Q up e wrap32).1 % 10 ^ 18 = b) (he : (rnd Q up e wrap32).2 = e') (hr : r = .returned (dec a b e' n)) (h : Below w.heap.size w w') : RoundPost Q up e n w r w' := by
  subst ha hb he hr
  exact ⟨rfl, h⟩

theorem below2 (w : World) (a b : Obj) : Below w.heap.size w ((w.alloc a).alloc b) := ((Below.refl _ _).alloc (Nat.le_refl _) _).alloc (by simp) _

theorem round26 (Q h l : Nat) (e : Int) (n up : Bool) (hQ : Q < 10 ^ 36) (hh : h = Q / 10 ^ 18) (hl : l = Q % 10 ^ 18) (w : World) :
    Calls Try.prog 26 #[dec h l e n, .bool up] w fun r w' => RoundPost Q up e n w r w' := by
  have HH : Aside (Q < 10 ^ 36 ∧ h = Q / 10 ^ 18 ∧ l = Q % 10 ^ 18) := ⟨hQ, hh, hl⟩
  have b1 : (h : Int) < 1000000000000000000 := by omega
  have b2 : (l : Int) < 1000000000000000000 := by omega
  clear hQ hh hl
  unfold dec
  cases up
  · go_enter Try.func26, Try.ntmps26
    go_wp2
    refine bodyPost_ret (v := .agg #[.int .u64 h, .int .u64 l, .int .i32 e, .bool n]) (by simp [results, Try.results26, go_sem]) rfl ?_
    exact round_post HH.out.2.1.symm HH.out.2.2.symm rfl rfl (below2 _ _ _)
  · by_cases h1 : (l : Int) + 1 < 1000000000000000000
    · go_enter Try.func26, Try.ntmps26
      go_wp2
      refine bodyPost_ret (v := .agg #[.int .u64 h, .int .u64 (l + 1 : Int), .int .i32 e, .bool n]) (by simp [results, Try.results26, go_sem]) rfl ?_
      obtain ⟨k1, k2, k3⟩ := HH.out
      have e0 : rnd Q true e wrap32 = (Q + 1, e) := by simp only [rnd, if_true]; rw [if_neg (by omega)]
      refine round_post (a := h) (b := l + 1) (e' := e) ?_ ?_ (by rw [e0]) rfl (below2 _ _ _)
      · rw [e0]; show (Q + 1) / 10 ^ 18 = h; omega
      · rw [e0]; show (Q + 1) % 10 ^ 18 = l + 1; omega
    · by_cases h2 : (h : Int) + 1 = 1000000000000000000
      · have h2' : ((h : Int) + 1 == 1000000000000000000) = true := by rw [h2]; rfl
        have H2 : Aside ((h : Int) + 1 = 1000000000000000000) := h2
        clear h2
        go_enter Try.func26, Try.ntmps26
        go_wp2
        refine bodyPost_ret (v := .agg #[.int .u64 100000000000000000, .int .u64 0, .int .i32 (wrap32 (e + 1)), .bool n]) (by simp [results, Try.results26, go_sem]) rfl ?_
        obtain ⟨k1, k2, k3⟩ := HH.out
        have k4 := H2.out
        have e0 : rnd Q true e wrap32 = (10 ^ 35, wrap32 (e + 1)) := by simp only [rnd, if_true]; rw [if_pos (by omega)]
        refine round_post (a := 100000000000000000) (b := 0) (e' := wrap32 (e + 1)) ?_ ?_ (by rw [e0]) rfl (below2 _ _ _)
        · rw [e0]; show 10 ^ 35 / 10 ^ 18 = 100000000000000000; decide
        · rw [e0]; show 10 ^ 35 % 10 ^ 18 = 0; decide
      · have h2' : ((h : Int) + 1 == 1000000000000000000) = false := beq_eq_false_iff_ne.2 h2
        go_enter Try.func26, Try.ntmps26
        go_wp2
        refine bodyPost_ret (v := .agg #[.int .u64 (h + 1 : Int), .int .u64 0, .int .i32 e, .bool n]) (by simp [results, Try.results26, go_sem]) rfl ?_
        obtain ⟨k1, k2, k3⟩ := HH.out
        have e0 : rnd Q true e wrap32 = (Q + 1, e) := by simp only [rnd, if_true]; rw [if_neg (by omega)]
        refine round_post (a := h + 1) (b := 0) (e' := e) ?_ ?_ (by rw [e0]) rfl (below2 _ _ _)
        · rw [e0]; show (Q + 1) / 10 ^ 18 = h + 1; omega
        · rw [e0]; show (Q + 1) % 10 ^ 18 = 0; omega
end Go.Proofs.Qxb6603993a
