import Derived.Test.Qxb6602963aReg
namespace Go.Proofs.Qxb6602963a
open Go.RowKit
set_option linter.unusedVariables false

theorem Try.info55 : (Try.prog.info? 55).map (fun i => (i.zero, i.size, i.bytes)) = some (some (.agg #[.int .i32 0, .int .i32 0]), 2, 8) := by kernel_rfl

/-- the cells of a stack of pairs, the top last -/
def stV2 (V : Nat → Nat) (St : List (Nat × Nat)) : List Value := St.reverse.flatMap fun p => [.int .i32 (V p.1 : Int), .int .i32 (p.2 : Int)]

theorem stV2_cons (V : Nat → Nat) (p : Nat × Nat) (St : List (Nat × Nat)) : stV2 V (p :: St) = stV2 V St ++ [.int .i32 (V p.1 : Int), .int .i32 (p.2 : Int)] := by simp [stV2]
theorem stV2_len (V : Nat → Nat) (St : List (Nat × Nat)) : (stV2 V St).length = 2 * St.length := by
  induction St with
  | nil => rfl
  | cons p St ih => rw [stV2_cons, List.length_append, ih, List.length_cons]; simp; omega
theorem stV2_congr {V V' : Nat → Nat} {St : List (Nat × Nat)} (h : ∀ j x, (j, x) ∈ St → V j = V' j) : stV2 V St = stV2 V' St := by
  induction St with
  | nil => rfl
  | cons p St ih =>
    obtain ⟨j, x⟩ := p
    rw [stV2_cons, stV2_cons, ih (fun j x hm => h j x (List.mem_cons_of_mem _ hm)), h j x List.mem_cons_self]

/-- an own row of pairs: its form -/
theorem owns2_form {w : World} {base k : Nat} {v : Value} {xs : List Value} (h : w.ownsRow base 55 2 v k xs) : ∃ a c, v = .slice a k c := by
  rcases h.2 with ⟨rfl, rfl⟩ | ⟨g, cap, cur, rfl, _⟩
  · exact ⟨_, _, rfl⟩
  · exact ⟨_, _, rfl⟩

theorem owns2_len {w : World} {base k : Nat} {v : Value} {xs : List Value} (h : w.ownsRow base 55 2 v k xs) : k ≤ 9223372036854775807 := by
  rcases h.2 with ⟨_, h0⟩ | ⟨g, cap, cur, rfl, hb, hg, hle, hml, hcs, htk⟩
  · omega
  · simp only [maxLen] at hml; omega

/-- the top pair's two cells -/
theorem owns2_top {w : World} {base : Nat} {v : Value} {V : Nat → Nat} {j x : Nat} {r : List (Nat × Nat)} (h : w.ownsRow base 55 2 v (r.length + 1) (stV2 V ((j, x) :: r))) :
    ∃ g c, v = .slice (some ⟨g, 0, none⟩) (r.length + 1) c ∧ base ≤ g ∧ g < w.heap.size ∧ r.length + 1 ≤ c ∧ w.cell? ⟨g, 2 * r.length, none⟩ = some (.int .i32 (V j : Int)) ∧ w.cell? ⟨g, 2 * r.length + 1, none⟩ = some (.int .i32 (x : Int)) ∧ (∀ i, w.frozen? ⟨g, i, none⟩ = false) ∧
      (∀ y : Nat, (w.setCell ⟨g, 2 * r.length + 1, none⟩ (.int .i32 (y : Int))).ownsRow base 55 2 v (r.length + 1) (stV2 V ((j, y) :: r))) ∧ (∀ w1 : World, w1.heap[g]? = w.heap[g]? → w1.ownsRow base 55 2 (.slice (some ⟨g, 0, none⟩) r.length c) r.length (stV2 V r)) := by
  obtain ⟨h1, h2⟩ := h
  rcases h2 with ⟨_, h0⟩ | ⟨g, cap, cur, rfl, hb, hg, hle, hml, hcs, htk⟩
  · omega
  · have hsz : 2 * r.length + 2 ≤ cur.size := by omega
    have hget : ∀ i, i < 2 * r.length + 2 → cur[i]? = (stV2 V ((j, x) :: r))[i]? := fun i hi => by
      rw [← htk, List.getElem?_take, if_pos (by omega)]
      simp
    have hl : (stV2 V r).length = 2 * r.length := stV2_len V r
    refine ⟨g, cap, rfl, hb, (Array.getElem?_eq_some_iff.1 hg).1, hle, ?_, ?_, fun i => by simp [World.frozen?, hg], fun y => ?_, fun w1 e => ?_⟩
    · rw [cell_of_row w g _ cur _ (0, 0) hg, hget _ (by omega), stV2_cons, List.getElem?_append_right (by omega), hl]
      simp
    · rw [cell_of_row w g _ cur _ (0, 0) hg, hget _ (by omega), stV2_cons, List.getElem?_append_right (by omega), hl]
      simp [show 2 * r.length + 1 - 2 * r.length = 1 by omega]
    · refine ⟨by rw [stV2_len]; simp; omega, .inr ⟨g, cap, _, rfl, hb, Go.heap_setCell_same w g (2 * r.length + 1) cur 55 _ hg, hle, hml, by simp [hcs], ?_⟩⟩
      apply List.ext_getElem?
      intro i
      rw [List.getElem?_take]
      by_cases c : i < (r.length + 1) * 2
      · rw [if_pos c, stV2_cons]
        by_cases e : i = 2 * r.length + 1
        · subst e
          rw [List.getElem?_append_right (by omega), hl]
          have : 2 * r.length + 1 < cur.size := by omega
          simp [this, show 2 * r.length + 1 - 2 * r.length = 1 by omega]
        · have h3 := hget i (by omega)
          rw [stV2_cons] at h3
          rw [Array.getElem?_toList, Array.getElem?_setIfInBounds_ne (Ne.symm e), h3]
          by_cases c2 : i < 2 * r.length
          · rw [List.getElem?_append_left (by omega), List.getElem?_append_left (by omega)]
          · obtain rfl : i = 2 * r.length := by omega
            rw [List.getElem?_append_right (by omega), List.getElem?_append_right (by omega), hl]
            simp
      · rw [if_neg c, List.getElem?_eq_none (by rw [stV2_len]; simp; omega)]
    · refine ⟨by rw [stV2_len]; omega, .inr ⟨g, cap, cur, rfl, hb, e.trans hg, by omega, hml, hcs, ?_⟩⟩
      have h4 : (cur.toList.take ((r.length + 1) * 2)).take (r.length * 2) = (stV2 V ((j, x) :: r)).take (r.length * 2) := by rw [htk]
      rw [List.take_take, show min (r.length * 2) ((r.length + 1) * 2) = r.length * 2 by omega, stV2_cons, List.take_left' (by omega)] at h4
      exact h4

/-- the head of an own row of pairs -/
theorem slice_head2 (b n c k : Nat) (h : k ≤ c) (w : World) : (Instr.sliceAt 56 (.slice (some ⟨b, 0, none⟩) n c) none (some (.int .i64 (k : Int))) none).run Try.prog w = .ok (.slice (some ⟨b, 0, none⟩) k c) w := by
  have hu : Try.prog.underlying 56 = some (.slice (Try.prog.elem 56)) := by kernel_rfl
  rw [run_sliceAt_slice _ _ _ _ _ _ hu, run_slice_h (P := Try.prog) w 56 _ n c hu .i64 (k : Int) (by omega) (by omega)]
  have e2 : Try.prog.elem 56 = 55 := by kernel_rfl
  rw [e2, Try.sizeOf55]
  simp [sliced, Addr.add]
end Go.Proofs.Qxb6602963a
