import Derived.Test.Qxb6603993aPack
namespace Go.Proofs.Qxb6603993a
open Go.RowKit
set_option linter.unusedVariables false

theorem inc_rows (w : World) (f : Nat → Nat) : let W := (w.alloc (.cells (arr 36 (fun i => .int .i64 (f i : Int))) 41)).alloc (.cells (arr 36 (fun _ => .int .i64 ((0 : Nat) : Int))) 41)
    Below w.heap.size w W ∧ W.rowIs w.heap.size 41 36 (fun i => .int .i64 (f i : Int)) ∧ W.rowIs (w.heap.size + 1) 41 36 (fun _ => .int .i64 ((0 : Nat) : Int)) := by
  refine ⟨((Below.refl _ _).alloc (Nat.le_refl _) _).alloc (by simp) _, (arr_row w _ _ _).alloc _, ?_⟩
  have := arr_row (w.alloc (.cells (arr 36 (fun i => .int .i64 (f i : Int))) 41)) 36 (fun _ => .int .i64 ((0 : Nat) : Int)) 41
  simpa using this

theorem res2 {fn : Func} {p q : Tmp} (h : fn.results = #[.cell p 41, .tmp q]) (tmps : Array Value) (w : World) (b : Nat) (f : Nat → Value) (hp : tmps.getD p undef = .pointer (some ⟨b, 0, none⟩)) (hr : w.rowIs b 41 36 f) :
    (results fn tmps).run Try.prog w = .ok (.tuple #[.agg (arr 36 f), tmps.getD q undef]) w := by
  have hp' : tmps[p]?.getD undef = .pointer (some ⟨b, 0, none⟩) := by simpa using hp
  simp [results, h, hp', asAddr, run_loadVar_row w b 41 41 (arr 36 f) (0, 0) _ (row_block hr) Try.underlying41 rfl (by rw [arr_size]; exact info41)]

theorem inc18 (Q : Nat) (e : Int) (hQ : Q < 10 ^ 36) (w : World) :
    Calls Try.prog 18 #[.agg (arr 36 fun i => .int .i64 (dig Q i : Int)), .int .i32 e] w fun r w' => r = .returned (.tuple #[.agg (arr 36 fun i => .int .i64 (dig (rnd Q true e wrap32).1 i : Int)), .int .i32 (rnd Q true e wrap32).2]) ∧ Below w.heap.size w w' := by
  have HH : Aside (Q < 10 ^ 36) := hQ
  clear hQ
  go_enter Try.func18, Try.ntmps18
  go_wp2
  rw [zero36]
  go_loopg [6] 36 (fun g i wr => ∃ k : Nat, k ≤ 36 ∧ g = 36 - k ∧ i = .int .i64 k ∧ Q % 10 ^ k = 10 ^ k - 1 ∧ Below w.heap.size w wr ∧ wr.rowIs w.heap.size 41 36 (fun j => .int .i64 ((if j < k then 0 else dig Q j : Nat) : Int)) ∧ wr.rowIs (w.heap.size + 1) 41 36 (fun _ => .int .i64 ((0 : Nat) : Int)))
  case atStart =>
    have := inc_rows w (dig Q)
    exact ⟨0, by omega, rfl, rfl, by simp [Nat.mod_one], this.1, this.2.1.congr fun j _ => by simp, this.2.2⟩
  case round =>
    obtain ⟨k, hk, rfl, rfl, h9, hbel, hd, hr⟩ := hrel
    have OO : Aside (Q % 10 ^ k = 10 ^ k - 1 ∧ Below w.heap.size w wr ∧ wr.rowIs w.heap.size 41 36 (fun j => .int .i64 ((if j < k then 0 else dig Q j : Nat) : Int)) ∧ wr.rowIs (w.heap.size + 1) 41 36 (fun _ => .int .i64 ((0 : Nat) : Int))) := ⟨h9, hbel, hd, hr⟩
    clear h9 hbel hd hr
    by_cases hlt : k < 36
    · have hlz : (k : Int) < 36 := by omega
      have hc := OO.out.2.2.1.cell (i := k) (by omega)
      rw [if_neg (Nat.lt_irrefl k)] at hc
      have hf := OO.out.2.2.1.frozen k
      have e4 := dig_lt Q k
      by_cases h9 : dig Q k = 9
      · have h9' : ((dig Q k : Int) == 9) = true := by rw [h9]; rfl
        have HN : Aside (dig Q k = 9) := h9
        clear h9
        go_wp2
        go_roundg (36 - (k + 1))
        case rel =>
          go_light
          refine ⟨k + 1, by omega, rfl, rfl, nines_step Q k OO.out.1 HN.out, OO.out.2.1.setCell (by show w.heap.size ≤ w.heap.size; omega) _, row_step (f := fun _ => 0) OO.out.2.2.1, OO.out.2.2.2.setOther (by simp) _⟩
        case measure => go_light; omega
      · have h9' : ((dig Q k : Int) == 9) = false := beq_eq_false_iff_ne.2 (by omega)
        have hd : (dig Q k : Int) < 10 := by omega
        have HN : Aside (dig Q k ≠ 9) := h9
        clear h9 e4
        have hQ1 : Q + 1 ≠ 10 ^ 36 := by
          intro h
          have : dig Q k = 9 := by
            have hq : Q = 10 ^ 36 - 1 := by omega
            subst hq
            clear h9' hc hf hd HN OO HH
            have : ∀ k, k < 36 → dig (10 ^ 36 - 1) k = 9 := by decide +kernel
            exact this k hlt
          exact HN.out this
        have HQ : Aside (Q + 1 ≠ 10 ^ 36) := hQ1
        clear hQ1
        have hrd : (wr.setCell ⟨w.heap.size, k, none⟩ (.int .i64 ((dig Q k + 1 : Nat) : Int))).rowIs w.heap.size 41 36 (fun j => .int .i64 (dig (Q + 1) j : Int)) := by
          refine (OO.out.2.2.1.set k (.int .i64 ((dig Q k + 1 : Nat) : Int))).congr fun j _ => ?_
          rw [inc_dig Q k j OO.out.1 HN.out]
          by_cases e1 : j = k
          · subst e1; simp
          · simp only [if_neg e1]
        have hr0 := OO.out.2.2.2.setOther (a := ⟨w.heap.size, k, none⟩) (by simp) (.int .i64 ((dig Q k + 1 : Nat) : Int))
        have hB : Below w.heap.size w (wr.setCell ⟨w.heap.size, k, none⟩ (.int .i64 ((dig Q k + 1 : Nat) : Int))) := OO.out.2.1.setCell (by show w.heap.size ≤ w.heap.size; omega) _
        rw [show ((dig Q k + 1 : Nat) : Int) = (dig Q k : Int) + 1 by omega] at hrd hr0 hB
        have HR : Aside ((wr.setCell ⟨w.heap.size, k, none⟩ (.int .i64 ((dig Q k : Int) + 1))).rowIs w.heap.size 41 36 (fun j => .int .i64 (dig (Q + 1) j : Int)) ∧ (wr.setCell ⟨w.heap.size, k, none⟩ (.int .i64 ((dig Q k : Int) + 1))).rowIs (w.heap.size + 1) 41 36 (fun _ => .int .i64 ((0 : Nat) : Int)) ∧ Below w.heap.size w (wr.setCell ⟨w.heap.size, k, none⟩ (.int .i64 ((dig Q k : Int) + 1)))) := ⟨hrd, hr0, hB⟩
        clear hrd hr0 hB
        go_wp2_with (first | refine wpList_load41 rfl _ rfl w.heap.size rfl _ HR.out.1 ?_ | refine wpList_store41 rfl _ _ rfl (w.heap.size + 1) (fun j => (dig (Q + 1) j : Int)) rfl rfl _ HR.out.2.1 ?_)
        refine bodyPost_ret (res2 rfl _ _ (w.heap.size + 1) (fun j => .int .i64 (dig (Q + 1) j : Int)) rfl (setRow_row HR.out.2.1)) rfl ?_
        refine ⟨?_, below_setRow HR.out.2.2 (by omega) _⟩
        have : rnd Q true e wrap32 = (Q + 1, e) := by simp [rnd, HQ.out]
        rw [this]
        rfl
    · obtain rfl : k = 36 := by omega
      clear hlt
      have hc := OO.out.2.2.1.cell (i := 35) (by omega)
      rw [if_pos (by omega)] at hc
      have hf := OO.out.2.2.1.frozen 35
      have HQ : Aside (Q + 1 = 10 ^ 36) := by
        have h1 := OO.out.1
        have h2 := HH.out
        show Q + 1 = 10 ^ 36
        omega
      have hrd : (wr.setCell ⟨w.heap.size, 35, none⟩ (.int .i64 1)).rowIs w.heap.size 41 36 (fun j => .int .i64 (dig (10 ^ 35) j : Int)) := by
        refine (OO.out.2.2.1.set 35 (.int .i64 1)).congr fun j hj => ?_
        have : ∀ j, j < 36 → dig (10 ^ 35) j = if j = 35 then 1 else 0 := by decide +kernel
        rw [this j hj, if_pos hj]
        by_cases e1 : j = 35
        · simp [e1]
        · simp [e1]
      have hr0 := OO.out.2.2.2.setOther (a := ⟨w.heap.size, 35, none⟩) (by simp) (.int .i64 1)
      have hB : Below w.heap.size w (wr.setCell ⟨w.heap.size, 35, none⟩ (.int .i64 1)) := OO.out.2.1.setCell (by show w.heap.size ≤ w.heap.size; omega) _
      have HR : Aside ((wr.setCell ⟨w.heap.size, 35, none⟩ (.int .i64 1)).rowIs w.heap.size 41 36 (fun j => .int .i64 (dig (10 ^ 35) j : Int)) ∧ (wr.setCell ⟨w.heap.size, 35, none⟩ (.int .i64 1)).rowIs (w.heap.size + 1) 41 36 (fun _ => .int .i64 ((0 : Nat) : Int)) ∧ Below w.heap.size w (wr.setCell ⟨w.heap.size, 35, none⟩ (.int .i64 1))) := ⟨hrd, hr0, hB⟩
      clear hrd hr0 hB
      have HT : Aside (rnd Q true e wrap32 = (10 ^ 35, wrap32 (e + 1))) := by show _ = _; simp [rnd, HQ.out]
      generalize 10 ^ 35 = T at HR HT
      go_wp2_with (first | refine wpList_load41 rfl _ rfl w.heap.size rfl _ HR.out.1 ?_ | refine wpList_store41 rfl _ _ rfl (w.heap.size + 1) (fun j => (dig T j : Int)) rfl rfl _ HR.out.2.1 ?_)
      refine bodyPost_ret (res2 rfl _ _ (w.heap.size + 1) (fun j => .int .i64 (dig T j : Int)) rfl (setRow_row HR.out.2.1)) rfl ?_
      refine ⟨?_, below_setRow HR.out.2.2 (by omega) _⟩
      rw [HT.out]
      rfl
end Go.Proofs.Qxb6603993a
