import Derived.Test.Qxb6603969aT2
import Derived.Maps.AppendAt
import Derived.Test.Qxb6603969aKeyW
namespace Go.Proofs.Qxb6603969a
open Go.RowKit
set_option linter.unusedVariables false

theorem zz25 (a0 a1 : Option Addr) (n0 c0 n1 c1 : Nat) (w : World) : Calls Try.prog 25 #[.slice a0 n0 c0, .slice a1 n1 c1] w fun e w' => e = .returned (.bool (decide (n0 + n1 ≤ 1048576))) ∧ w' = w := by
  by_cases h0 : n0 ≤ 1048576
  · by_cases h1 : n0 + n1 ≤ 1048576
    · have z1 : (n0 : Int) + (n1 : Int) ≤ 1048576 := by omega
      rw [decide_eq_true h1]
      go_enter Try.func25, Try.ntmps25
      go_wp2
      go_ret
      exact ⟨rfl, rfl⟩
    · rw [decide_eq_false h1]
      by_cases h2 : n1 ≤ 1048576
      · have z1 : 1048576 < (n0 : Int) + (n1 : Int) := by omega
        go_enter Try.func25, Try.ntmps25
        go_wp2
        go_ret
        exact ⟨rfl, rfl⟩
      · go_enter Try.func25, Try.ntmps25
        go_wp2
        go_ret
        exact ⟨rfl, rfl⟩
  · have h1 : ¬ (n0 + n1 ≤ 1048576) := by omega
    rw [decide_eq_false h1]
    go_enter Try.func25, Try.ntmps25
    go_wp2
    go_ret
    exact ⟨rfl, rfl⟩

theorem below_drewN {B : Nat} {w wr : World} (h : Below B w wr) (n : Nat) : Below B w (wr.drewN n) := ⟨h.os, h.tape, h.output, h.size, h.block⟩

theorem pre13 (ao ab : Option Addr) (no co nb cb : Nat) (F : Nat → Int) (w : World) (ho : Reads w ao no (fun i => .int .u8 (F i))) (hb : Reads w ab nb (fun i => .int .u8 (F i))) (hle : nb ≤ no) (hno : no ≤ 100000000) :
    Calls Try.prog 13 #[.slice ao no co, .slice ab nb cb] w fun e w' => e = .returned (.bool true) ∧ Below w.heap.size w w' := by
  go_enter Try.func13, Try.ntmps13
  go_wp2
  go_loopg [5] nb (fun g i wr => ∃ k : Nat, k ≤ nb ∧ g = nb - k ∧ i = .int .i64 k ∧ Below w.heap.size w wr)
  case atStart => exact ⟨0, Nat.zero_le _, rfl, rfl, Below.refl _ _⟩
  case round =>
    obtain ⟨k, hk, rfl, rfl, hbel⟩ := hrel
    by_cases hlt : k < nb
    · obtain ⟨b1, o1, rfl, hc1⟩ := ho (by omega)
      obtain ⟨b2, o2, rfl, hc2⟩ := hb (by omega)
      have g1 : wr.cell? ⟨b1, o1 + k, none⟩ = some (.int .u8 (F k)) := cell_later hbel (hc1 k (by omega))
      have g2 : wr.cell? ⟨b2, o2 + k, none⟩ = some (.int .u8 (F k)) := cell_later hbel (hc2 k hlt)
      have HB : Aside (Below w.heap.size w wr) := hbel
      clear hbel hc1 hc2 ho hb
      go_wp2
      go_quiet (fail)
      go_wp2
      go_roundg (nb - (k + 1))
      case rel =>
        go_light
        exact ⟨k + 1, by omega, rfl, by go_num, below_drewN HB.out _⟩
      case measure => go_light; omega
    · obtain rfl : k = nb := by omega
      go_wp2
      go_ret
      exact ⟨rfl, hbel⟩

/-- the row that is appended to: whoever appends turns no block below M -/
structure OutRow (base M : Nat) (w : World) (v : Value) (xs : List Value) : Prop where
  own : w.ownsRow base 5 1 v xs.length xs
  safe : (∀ k, v.ownBlock = some k → M ≤ k) ∨ (∃ g, v = .slice (some ⟨g, 0, none⟩) xs.length xs.length)

theorem OutRow.kept {base M : Nat} {w w' : World} {v : Value} {xs : List Value} (h : OutRow base M w v xs) (hb : Below w.heap.size w w') : OutRow base M w' v xs :=
  ⟨h.own.kept (row := none) ⟨hb.os, hb.tape, hb.output, hb.size, fun k hk _ => hb.block k hk⟩ (by cases hv : v.ownBlock <;> simp), h.safe⟩

theorem run_append_out (ty : TypeId) (base M : Nat) (w : World) (v : Value) (xs : List Value) (h : OutRow base M w v xs) (a : Addr) (m c : Nat) (news : List Value) (hl : news.length = m) (hnews : ∀ j u, news[j]? = some u → w.cell? (a.add j) = some u)
    (h1 : ∀ u ∈ news, u.oneCell' = true) (hm : 0 < m) (hlen : xs.length + m ≤ 100000000) (hbM : base ≤ M) (hM : M ≤ w.heap.size) :
    ∃ v' w', (Builtin.append_ #[22, 22] ty #[v, .slice (some a) m c]).run Try.prog w = .ok v' w' ∧ Aside (OutRow base M w' v' (xs ++ news) ∧ Below M w w' ∧ w.grownBy w' v.ownBlock) := by
  obtain ⟨i0, hi, hz0, hz1, hz2⟩ := info_parts Try.info5
  rcases h.safe with hs | ⟨g, rfl⟩
  · obtain ⟨v', w', hrun, hown, hgr, hiff, hob⟩ := run_append_own_at (P := Try.prog) w base 22 ty 5 i0 (.int .u8 0) 1 1 Try.underlying22 hi hz0 hz1 hz2 rfl (by decide) v xs.length xs h.own a m c news (by rw [hl, Nat.mul_one]) hnews h1
      (by simp only [maxLen]; omega) (by omega) (by omega)
    refine ⟨v', w', hrun, ⟨by rw [List.length_append, hl]; exact hown, .inl fun k hk => ?_⟩, ⟨hgr.os, hgr.tape, hgr.output, hgr.size, fun k hk => hgr.block k (by omega) fun e => ?_⟩, hgr⟩
    · rcases hob with e | e
      · exact hs k (e.symm.trans hk)
      · rw [hk] at e; cases e; exact hM
    · have := hs k e.symm; omega
  · obtain ⟨hxl, hor⟩ := h.own
    rcases hor with ⟨hv, _⟩ | ⟨g', cap, cur, hv, hb, hg, hle, hml, hcs, htk⟩
    · cases hv
    · cases hv
      rw [Nat.mul_one] at hcs htk
      have holds : ∀ j u, xs[j]? = some u → w.cell? ((⟨g, 0, none⟩ : Addr).add j) = some u := h.own.cells rfl
      have hrun := run_append_grow (P := Try.prog) w 22 ty 5 i0 (.int .u8 0) Try.underlying22 hi hz0 ⟨g, 0, none⟩ xs.length xs.length xs (by rw [hz1, Nat.mul_one]) holds a m c news (by rw [hz1, Nat.mul_one, hl]) hnews (by omega) (by omega) (by
        rw [hz2, Nat.mul_one]
        have := nextslicecap_le (need := xs.length + m) (old := xs.length) (by omega)
        omega)
      have hge := grownCap_ge w (xs.length + m) xs.length 5
      have hle2 := grownCap_le_maxLen w (xs.length + m) xs.length 5 (by simp only [maxLen]; omega)
      generalize grownCap w (xs.length + m) xs.length 5 = G at hrun hge hle2
      have hbel : Below w.heap.size w (w.drew.alloc (.cells (xs.toArray ++ news.toArray ++ Builtin.zeroCells (Value.int IntKind.u8 0).cells (G - (xs.length + m))) 5)) := (Below.refl _ _).drew.alloc (Nat.le_refl _) _
      refine ⟨_, _, hrun, ⟨⟨by simp, .inr ⟨w.heap.size, G, _, ?_, by omega, heap_alloc_new _ _, ?_, hle2, ?_, ?_⟩⟩, .inl fun k hk => ?_⟩, ?_, ?_⟩
      · rw [List.length_append, hl]
      · rw [List.length_append, hl]; exact hge
      · rw [Array.size_append, size_zeroCells]; simp [Value.cells, hl]; omega
      · simp only [Array.toList_append, Nat.mul_one]
        rw [List.take_left' (by simp)]
      · cases hk; exact hM
      · exact ⟨hbel.os, hbel.tape, hbel.output, hbel.size, fun k hk => hbel.block k (by omega)⟩
      · exact ⟨hbel.os, hbel.tape, hbel.output, hbel.size, fun k hk _ => hbel.block k hk⟩

theorem wpList_append_out (w : World) {ops : Array Oper} {rest : List Oper} {o : Oper} {a : Act} {Q : Exit → Act → World → Prop}
    (hg : o.guard = none) (s x : Operand) (hop : o.op = Op.call { callee := Callee.builtin Builtin.append, args := #[s, x], argTypes := #[22, 22] })
    (base M : Nat) (v : Value) (xs : List Value) (hs : a.eval s = v) (h : OutRow base M w v xs) (ad : Addr) (m c : Nat) (news : List Value) (hx : a.eval x = .slice (some ad) m c) (hl : news.length = m)
    (hnews : ∀ j u, news[j]? = some u → w.cell? (ad.add j) = some u) (h1 : ∀ u ∈ news, u.oneCell' = true) (hm : 0 < m) (hlen : xs.length + m ≤ 100000000) (hbM : base ≤ M) (hM : M ≤ w.heap.size)
    (hK : ∀ v' w', Aside (OutRow base M w' v' (xs ++ news) ∧ Below M w w' ∧ w.grownBy w' v.ownBlock) → wpList Try.prog ops Q rest (a.put o.dst v') w') :
    wpList Try.prog ops Q (o :: rest) a w := by
  refine wpList_plain hg fun K hK' => ?_
  obtain ⟨v', w', hrun, H⟩ := run_append_out o.type base M w v xs h ad m c news hl hnews h1 hm hlen hbM hM
  unfold Oper.wp
  simp [execOp, hop, resolve, invoke, builtin, hs, hx, hrun, Result.andThen]
  exact hK' _ _ (hK v' w' H)
end Go.Proofs.Qxb6603969a
