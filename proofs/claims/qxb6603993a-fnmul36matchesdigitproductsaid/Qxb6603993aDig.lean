import Derived.Test.Qxb6603993aMem
namespace Go.Proofs.Qxb6603993a
open Go.RowKit
set_option linter.unusedVariables false

theorem wrap_u (n : Nat) (h : n < 2 ^ 64) : IntKind.u64.wrap (n : Int) = n := by rw [IntKind.wrap_u64]; omega

theorem two_rows (w : World) : let W := (w.alloc (.cells (arr 36 (fun _ => .int .i64 ((0 : Nat) : Int))) 41)).alloc (.cells (arr 36 (fun _ => .int .i64 ((0 : Nat) : Int))) 41)
    Below w.heap.size w W ∧ W.rowIs w.heap.size 41 36 (fun _ => .int .i64 ((0 : Nat) : Int)) ∧ W.rowIs (w.heap.size + 1) 41 36 (fun _ => .int .i64 ((0 : Nat) : Int)) := by
  refine ⟨((Below.refl _ _).alloc (Nat.le_refl _) _).alloc (by simp) _, (arr_row w _ _ _).alloc _, ?_⟩
  have := arr_row (w.alloc (.cells (arr 36 (fun _ => .int .i64 ((0 : Nat) : Int))) 41)) 36 (fun _ => .int .i64 ((0 : Nat) : Int)) 41
  simpa using this

theorem row_step {w : World} {b : Nat} {t : TypeId} {n k : Nat} {f g : Nat → Nat} (h : w.rowIs b t n (fun j => .int .i64 ((if j < k then f j else g j : Nat) : Int))) :
    (w.setCell ⟨b, k, none⟩ (.int .i64 (f k : Int))).rowIs b t n (fun j => .int .i64 ((if j < k + 1 then f j else g j : Nat) : Int)) := by
  refine (h.set k (.int .i64 (f k : Int))).congr fun j _ => ?_
  by_cases e : j = k
  · subst e; simp
  · rw [if_neg e]
    by_cases hlt : j < k
    · rw [if_pos hlt, if_pos (by omega)]
    · rw [if_neg hlt, if_neg (by omega)]

theorem info41 : (Try.prog.info? 41).map (·.size) = some 36 := by kernel_rfl

theorem wpList_load41 {ops : Array Oper} {rest : List Oper} {o : Oper} {a : Act} {w : World} {Q : Exit → Act → World → Prop} (hgd : o.guard = none) (x : Operand) (ho : o.op = .load 41 x)
    (b : Nat) (hx : a.eval x = .pointer (some ⟨b, 0, none⟩)) (f : Nat → Value) (hr : w.rowIs b 41 36 f)
    (h : wpList Try.prog ops Q rest (a.put o.dst (.agg (arr 36 f))) w) : wpList Try.prog ops Q (o :: rest) a w :=
  wpList_load_row hgd 41 x ho b hx 41 (arr 36 f) (0, 0) _ (row_block hr) Try.underlying41 rfl (by rw [arr_size]; exact info41) h

theorem wpList_store41 {ops : Array Oper} {rest : List Oper} {o : Oper} {a : Act} {w : World} {Q : Exit → Act → World → Prop} (hgd : o.guard = none) (x y : Operand) (ho : o.op = .store 41 x y)
    (b : Nat) (g : Nat → Int) (hx : a.eval x = .pointer (some ⟨b, 0, none⟩)) (hy : a.eval y = .agg (arr 36 fun i => .int .i64 (g i))) (f : Nat → Value) (hr : w.rowIs b 41 36 f)
    (h : wpList Try.prog ops Q rest (a.put o.dst undef) (w.setRow b (arr 36 fun i => .int .i64 (g i)))) : wpList Try.prog ops Q (o :: rest) a w :=
  wpList_store_row hgd 41 x y ho b _ hx hy 41 (arr 36 f) (row_block hr) (by rw [arr_size]; exact info41) (by rw [arr_size, arr_size]) (by rw [Array.all_eq_true_iff_forall_mem]; intro v hv; exact arr_one 36 g .i64 v (by simpa using hv)) h

theorem res41 {fn : Func} {p : Tmp} (h : fn.results = #[.cell p 41]) (tmps : Array Value) (w : World) (b : Nat) (f : Nat → Value) (hp : tmps.getD p undef = .pointer (some ⟨b, 0, none⟩)) (hr : w.rowIs b 41 36 f) :
    (results fn tmps).run Try.prog w = .ok (.agg (arr 36 f)) w :=
  results_cell_row h tmps w b 41 (arr 36 f) (0, 0) _ hp (row_block hr) Try.underlying41 rfl (by rw [arr_size]; exact info41)

theorem digits19 (h l : Nat) (hh : h < 10 ^ 18) (hl : l < 10 ^ 18) (w : World) :
    Calls Try.prog 19 #[.int .u64 h, .int .u64 l] w fun e w' => e = .returned (.agg (arr 36 fun i => .int .i64 (dig (h * 10 ^ 18 + l) i : Int))) ∧ Below w.heap.size w w' := by
  have hh' : (h : Int) < 1000000000000000000 := by omega
  have hl' : (l : Int) < 1000000000000000000 := by omega
  have HH : Aside (h < 10 ^ 18 ∧ l < 10 ^ 18) := ⟨hh, hl⟩
  clear hh hl
  go_enter Try.func19, Try.ntmps19
  go_wp2
  rw [zero36]
  go_loopg [6, 1] 18 (fun g i v wr => ∃ k : Nat, k ≤ 18 ∧ g = 18 - k ∧ i = .int .i64 k ∧ v = .int .u64 (l / 10 ^ k : Nat) ∧ Below w.heap.size w wr ∧ wr.rowIs w.heap.size 41 36 (fun _ => .int .i64 ((0 : Nat) : Int)) ∧ wr.rowIs (w.heap.size + 1) 41 36 (fun j => .int .i64 ((if j < k then dig l j else 0 : Nat) : Int)))
  case atStart =>
    have := two_rows w
    exact ⟨0, by omega, rfl, rfl, by simp, this.1, this.2.1, this.2.2.congr fun j _ => by simp⟩
  case round =>
    obtain ⟨k, hk, rfl, rfl, rfl, hbel, hr, hd⟩ := hrel
    by_cases hlt : k < 18
    · have hlz : (k : Int) < 18 := by omega
      have hc := hd.cell (i := k) (by omega)
      have hf := hd.frozen k
      have OO : Aside (Below w.heap.size w wr ∧ wr.rowIs w.heap.size 41 36 (fun _ => .int .i64 ((0 : Nat) : Int)) ∧ wr.rowIs (w.heap.size + 1) 41 36 (fun j => .int .i64 ((if j < k then dig l j else 0 : Nat) : Int))) := ⟨hbel, hr, hd⟩
      clear hbel hr hd
      have e1 := div_step l k
      have e2 : l / 10 ^ k ≤ l := Nat.div_le_self _ _
      have e3 : dig l k = l / 10 ^ k % 10 := rfl
      have e4 := dig_lt l k
      have EE : Aside (l / 10 ^ k = l / 10 ^ (k + 1) * 10 + dig l k ∧ dig l k = l / 10 ^ k % 10 ∧ dig l k < 10) := ⟨e1, e3, e4⟩
      clear e1 e3 e4
      generalize l / 10 ^ k = x at *
      have ex : (x : Int) < 1000000000000000000 := by omega
      clear e2
      go_wp2
      go_roundg (18 - (k + 1))
      case rel =>
        go_light
        obtain ⟨e1, e3, e4⟩ := EE.out
        have hy : ((x : Int) / 10) = ((l / 10 ^ (k + 1) : Nat) : Int) := by omega
        have hz : ((x : Int) % 10) = ((dig l k : Nat) : Int) := by omega
        refine ⟨k + 1, by omega, rfl, rfl, by rw [hy], OO.out.1.setCell (by show w.heap.size ≤ w.heap.size + 1; omega) _, OO.out.2.1.setOther (by simp) _, ?_⟩
        rw [hz]
        exact row_step (g := fun _ => 0) OO.out.2.2
      case measure => go_light; omega
    · obtain rfl : k = 18 := by omega
      clear hlt
      have OO : Aside (Below w.heap.size w wr ∧ wr.rowIs w.heap.size 41 36 (fun _ => .int .i64 ((0 : Nat) : Int)) ∧ wr.rowIs (w.heap.size + 1) 41 36 (fun j => .int .i64 ((if j < 18 then dig l j else 0 : Nat) : Int))) := ⟨hbel, hr, hd⟩
      clear hbel hr hd
      obtain ⟨wo, rfl⟩ : ∃ wo : World, wo = wr := ⟨_, rfl⟩
      go_wp2
      go_loopg [7, 0] 18 (fun g i v wr => ∃ k : Nat, k ≤ 18 ∧ g = 18 - k ∧ i = .int .i64 (18 + k : Nat) ∧ v = .int .u64 (h / 10 ^ k : Nat) ∧ Below w.heap.size w wr ∧ wr.rowIs w.heap.size 41 36 (fun _ => .int .i64 ((0 : Nat) : Int)) ∧ wr.rowIs (w.heap.size + 1) 41 36 (fun j => .int .i64 ((if j < 18 + k then dig (h * 10 ^ 18 + l) j else 0 : Nat) : Int)))
      case atStart =>
        refine ⟨0, by omega, rfl, rfl, by simp, OO.out.1, OO.out.2.1, OO.out.2.2.congr fun j _ => ?_⟩
        by_cases hj : j < 18
        · simp [hj, dig_low h l j hj]
        · simp [hj]
      case round =>
        obtain ⟨k, hk, rfl, rfl, rfl, hbel, hr, hd⟩ := hrel
        clear OO
        by_cases hlt : k < 18
        · have hlz : ((18 + k : Nat) : Int) < 36 := by omega
          have hlz' : 18 + k < 36 := by omega
          have hc := hd.cell (i := 18 + k) (by omega)
          have hf := hd.frozen (18 + k)
          have OO : Aside (Below w.heap.size w wr ∧ wr.rowIs w.heap.size 41 36 (fun _ => .int .i64 ((0 : Nat) : Int)) ∧ wr.rowIs (w.heap.size + 1) 41 36 (fun j => .int .i64 ((if j < 18 + k then dig (h * 10 ^ 18 + l) j else 0 : Nat) : Int))) := ⟨hbel, hr, hd⟩
          clear hbel hr hd
          have e1 := div_step h k
          have e2 : h / 10 ^ k ≤ h := Nat.div_le_self _ _
          have e3 : dig h k = h / 10 ^ k % 10 := rfl
          have e4 := dig_lt h k
          have e5 := dig_high h l (18 + k) HH.out.2 (by omega)
          rw [Nat.add_sub_cancel_left] at e5
          have EE : Aside (h / 10 ^ k = h / 10 ^ (k + 1) * 10 + dig h k ∧ dig h k = h / 10 ^ k % 10 ∧ dig h k < 10 ∧ dig (h * 10 ^ 18 + l) (18 + k) = dig h k) := ⟨e1, e3, e4, e5⟩
          clear e1 e3 e4 e5
          generalize h / 10 ^ k = x at *
          have ex : (x : Int) < 1000000000000000000 := by omega
          clear e2
          obtain ⟨K, hK⟩ : ∃ K, K = 18 + k := ⟨_, rfl⟩
          have HK : Aside (K = 18 + k) := hK
          rw [← hK] at hlz hlz' hc hf ⊢
          clear hK
          go_wp2
          go_roundg (18 - (k + 1))
          case rel =>
            go_light
            obtain ⟨e1, e3, e4, e5⟩ := EE.out
            have hKK := HK.out
            subst hKK
            have hy : ((x : Int) / 10) = ((h / 10 ^ (k + 1) : Nat) : Int) := by omega
            have hz : ((x : Int) % 10) = ((dig (h * 10 ^ 18 + l) (18 + k) : Nat) : Int) := by omega
            refine ⟨k + 1, by omega, rfl, rfl, by rw [hy], OO.out.1.setCell (by show w.heap.size ≤ w.heap.size + 1; omega) _, OO.out.2.1.setOther (by simp) _, ?_⟩
            rw [hz]
            exact row_step (g := fun _ => 0) OO.out.2.2
          case measure => go_light; omega
        · obtain rfl : k = 18 := by omega
          clear hlt
          have hd' : wr.rowIs (w.heap.size + 1) 41 36 (fun j => .int .i64 (dig (h * 10 ^ 18 + l) j : Int)) := hd.congr fun j hj => by simp [hj]
          have OO : Aside (Below w.heap.size w wr ∧ wr.rowIs w.heap.size 41 36 (fun _ => .int .i64 ((0 : Nat) : Int)) ∧ wr.rowIs (w.heap.size + 1) 41 36 (fun j => .int .i64 (dig (h * 10 ^ 18 + l) j : Int))) := ⟨hbel, hr, hd'⟩
          clear hd hd' hr hbel
          go_wp2_with (first | refine wpList_load41 rfl _ rfl (w.heap.size + 1) rfl _ OO.out.2.2 ?_ | refine wpList_store41 rfl _ _ rfl w.heap.size (fun j => (dig (h * 10 ^ 18 + l) j : Int)) rfl rfl _ OO.out.2.1 ?_)
          refine bodyPost_ret (res41 rfl _ _ w.heap.size (fun j => .int .i64 (dig (h * 10 ^ 18 + l) j : Int)) rfl (setRow_row OO.out.2.1)) rfl ?_
          exact ⟨rfl, below_setRow OO.out.1 (Nat.le_refl _) _⟩
end Go.Proofs.Qxb6603993a
