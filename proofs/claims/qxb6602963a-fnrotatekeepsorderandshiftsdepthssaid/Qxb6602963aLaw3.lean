import Derived.Test.Qxb6602963aFin
import Derived.Test.Qxb6602963aSplayW
namespace Go.Proofs.Qxb6602963a
open Go.RowKit
set_option linter.unusedVariables false

/-- ZZRotate -/
theorem zzrot12 (B bl br bu L x p g : Nat) (zl zr zu : Nat → Int) (w : World) (hn : L ≤ 65536) (rl : w.rowIs bl 21 L (fun j => .int .i32 (zl j))) (rr : w.rowIs br 21 L (fun j => .int .i32 (zr j))) (ru : w.rowIs bu 21 L (fun j => .int .i32 (zu j)))
    (lr : bl ≠ br) (lu : bl ≠ bu) (ru' : br ≠ bu) (Bl : B ≤ bl) (Br : B ≤ br) (Bu : B ≤ bu)
    (hx : x < L) (hp : p < L) (hg : g < L) (ex : zu x = p) (ep : zu p = g) (xp : x ≠ p) (gp : g ≠ p) (gx : g ≠ x) (lx : 0 ≤ zl x ∧ zl x < L) (rx : 0 ≤ zr x ∧ zr x < L)
    (lx' : zl x ≠ 0 → (zl x).toNat ≠ x ∧ (zl x).toNat ≠ p) (rx' : zr x ≠ 0 → (zr x).toNat ≠ x ∧ (zr x).toNat ≠ p) :
    Calls Try.prog 12 #[.slice (some ⟨bl, 0, none⟩) L L, .slice (some ⟨br, 0, none⟩) L L, .slice (some ⟨bu, 0, none⟩) L L, .int .i32 (x : Int)] w fun e w' => RotPost B w w.heap.size bl br bu L zl zr zu x p g e w' := by
  have hB : B ≤ w.heap.size := by have := rl.lt; omega
  have hRW : RW B w (w.alloc (.cells #[.slice (some ⟨bl, 0, none⟩) L L, .slice (some ⟨br, 0, none⟩) L L, .slice (some ⟨bu, 0, none⟩) L L] 43)) w.heap.size bl br bu L zl zr zu := by
    have hrow := World.rowIs_alloc w #[.slice (some ⟨bl, 0, none⟩) L L, .slice (some ⟨br, 0, none⟩) L L, .slice (some ⟨bu, 0, none⟩) L L] 43 (fun i => (#[Value.slice (some ⟨bl, 0, none⟩) L L, .slice (some ⟨br, 0, none⟩) L L, .slice (some ⟨bu, 0, none⟩) L L] : Array Value)[i]!) (fun i hi => by
      match i, hi with
      | 0, _ | 1, _ | 2, _ => rfl)
    exact ⟨(Below.refl _ _).alloc hB _, rl.alloc _, rr.alloc _, ru.alloc _, hrow.cell (i := 0) (by simp), hrow.cell (i := 1) (by simp), hrow.cell (i := 2) (by simp)⟩
  have R := rotate26 B w.heap.size bl br bu L x p g zl zr zu w _ hn hRW ⟨lr, lu, ru', by have := rl.lt; omega, by have := rr.lt; omega, by have := ru.lt; omega, Bl, Br, Bu⟩ hx hp hg ex ep xp gp gx lx rx lx' rx'
  clear hRW
  go_enter Try.func12, Try.ntmps12
  go_wp2_with fail
  refine R.mono ?_
  rintro e w1 ⟨rfl, hP⟩
  go_wp2
  go_end0
  exact ⟨rfl, hP⟩

theorem Good.x_facts {L : Nat} {zl zr zu : Nat → Int} (hg : Good L L L zl zr zu) {x : Nat} (hx : Vx L x) (hb : headB zl zr zu x = false) :
    ∃ p g : Nat, zu x = p ∧ 0 < p ∧ p < L ∧ (zl p = x ∨ zr p = x) ∧ zu p = g ∧ g < L ∧ x ≠ p ∧ g ≠ p ∧ g ≠ x ∧ (zl x ≠ 0 → (zl x).toNat ≠ x ∧ (zl x).toNat ≠ p) ∧ (zr x ≠ 0 → (zr x).toNat ≠ x ∧ (zr x).toNat ≠ p) := by
  have ok := hg.ok
  obtain ⟨p, ep⟩ := Int.eq_ofNat_of_zero_le (hg.rng x hx.1 hx.2).2.2.1
  have hp := headB_pos ep hb
  have pL : p < L := by have := hg.rng x hx.1 hx.2; omega
  obtain ⟨g, eg⟩ := Int.eq_ofNat_of_zero_le (hg.rng p hp.1 pL).2.2.1
  have gL : g < L := by have := hg.rng p hp.1 pL; omega
  obtain ⟨rk, hrk⟩ := ok.acy
  have e1 : nat zu x = p := by simp only [nat]; omega
  have e2 : nat zu p = g := by simp only [nat]; omega
  have r1 : rk p < rk x := by have := hrk x hx (by rw [e1]; omega); rwa [e1] at this
  have r2 : g ≠ 0 → rk g < rk p := fun h => by have := hrk p ⟨hp.1, pL⟩ (by rw [e2]; exact h); rwa [e2] at this
  have rl : nat zl x ≠ 0 → rk x < rk (nat zl x) := fun h => by
    have := hrk (nat zl x) ⟨by omega, ok.bl x hx⟩ (by rw [ok.ul x hx h]; have := hx.1; omega)
    rwa [ok.ul x hx h] at this
  have rr : nat zr x ≠ 0 → rk x < rk (nat zr x) := fun h => by
    have := hrk (nat zr x) ⟨by omega, ok.br x hx⟩ (by rw [ok.ur x hx h]; have := hx.1; omega)
    rwa [ok.ur x hx h] at this
  have hx0 := hx.1
  refine ⟨p, g, ep, hp.1, pL, hp.2, eg, gL, ?_, ?_, ?_, ?_, ?_⟩
  · intro e; rw [e] at r1; omega
  · intro e
    by_cases h0 : g = 0
    · omega
    · have := r2 h0; rw [e] at this; omega
  · intro e
    by_cases h0 : g = 0
    · omega
    · have := r2 h0; rw [e] at this; omega
  · intro h
    have hn : nat zl x ≠ 0 := by have := hg.rng x hx.1 hx.2; simp only [nat]; omega
    have := rl hn
    exact ⟨fun e => by rw [show nat zl x = x from e] at this; omega, fun e => by rw [show nat zl x = p from e] at this; omega⟩
  · intro h
    have hn : nat zr x ≠ 0 := by have := hg.rng x hx.1 hx.2; simp only [nat]; omega
    have := rr hn
    exact ⟨fun e => by rw [show nat zr x = x from e] at this; omega, fun e => by rw [show nat zr x = p from e] at this; omega⟩

theorem mark14_any (p0 p1 L bm root : Nat) (zl zr : Nat → Int) (u : Nat → Nat) (T : Nat → Nat → List (Nat × Nat)) (mk0 : Nat → Bool) (w : World) (hL : L ≤ 65536) (hk : OK (nat zl) (nat zr) u L) (ht : Trav (nat zl) (nat zr) L T) (hr : root < L)
    (hrl : ∀ i, 0 < i → i < L → 0 ≤ zl i) (hrr : ∀ i, 0 < i → i < L → 0 ≤ zr i)
    (g0 : w.rowIs p0 21 L (fun i => .int .i32 (zl i))) (g1 : w.rowIs p1 21 L (fun i => .int .i32 (zr i))) (hm : w.rowIs bm 4 L (fun j => .bool (mk0 j))) (n0 : p0 ≠ bm) (n1 : p1 ≠ bm) :
    Calls Try.prog 14 #[.slice (some ⟨p0, 0, none⟩) L L, .slice (some ⟨p1, 0, none⟩) L L, .int .i32 (root : Int), .slice (some ⟨bm, 0, none⟩) L L] w fun e w' => MarkPost w bm L ((T 0 root).map Prod.fst) mk0 e w' := by
  by_cases h0 : root = 0
  · subst h0
    rw [ht.zero]
    exact mark14_zero _ _ _ _ _ _ _ _ _ bm L mk0 w hm
  · exact mark14 p0 p1 L bm root zl zr u T mk0 w hL hk ht ⟨by omega, hr⟩ hrl hrr g0 g1 hm n0 n1

set_option maxHeartbeats 8000000 in
set_option maxRecDepth 100000 in
theorem law3 (a0 a1 a2 : Option Addr) (n0 n1 n2 c0 c1 c2 : Nat) (zl zr zu : Nat → Int) (x : Int) (w : World) (m0 : n0 ≤ maxLen) (m1 : n1 ≤ maxLen) (m2 : n2 ≤ maxLen)
    (r0 : Reads w a0 n0 (fun i => .int .i32 (zl i))) (r1 : Reads w a1 n1 (fun i => .int .i32 (zr i))) (r2 : Reads w a2 n2 (fun i => .int .i32 (zu i)))
    (b0 : ∀ i, i < n0 → -2147483648 ≤ zl i ∧ zl i ≤ 2147483647) (b1 : ∀ i, i < n1 → -2147483648 ≤ zr i ∧ zr i ≤ 2147483647) (b2 : ∀ i, i < n2 → -2147483648 ≤ zu i ∧ zu i ≤ 2147483647) (bx : -2147483648 ≤ x ∧ x ≤ 2147483647) :
    Calls Try.prog 3 #[.slice a0 n0 c0, .slice a1 n1 c1, .slice a2 n2 c2, .int .i32 x] w fun e w' => e = .returned (.bool true) ∧ Below w.heap.size w w' := by
  have B8 := bytes8 a0 a1 a2 n0 n1 n2 c0 c1 c2 x w m0 m1 m2
  unfold maxLen at m0 m1 m2
  by_cases t0 : 65536 < n0
  · go_enter Try.func3, Try.ntmps3
    go_wp2_with (go_at_call 8; refine B8.mono ?_; rintro r w' ⟨B, rfl, rfl⟩)
    all_goals (go_ret; exact ⟨rfl, Below.refl _ _⟩)
  by_cases t1 : 65536 < n1
  · go_enter Try.func3, Try.ntmps3
    go_wp2_with (go_at_call 8; refine B8.mono ?_; rintro r w' ⟨B, rfl, rfl⟩)
    all_goals (go_ret; exact ⟨rfl, Below.refl _ _⟩)
  by_cases t2 : 65536 < n2
  · go_enter Try.func3, Try.ntmps3
    go_wp2_with (go_at_call 8; refine B8.mono ?_; rintro r w' ⟨B, rfl, rfl⟩)
    all_goals (go_ret; exact ⟨rfl, Below.refl _ _⟩)
  have L9 := lcOk9 a0 a1 a2 n0 n1 n2 c0 c1 c2 zl zr zu w (by omega) (by omega) (by omega) r0 r1 r2 b0 b1 b2
  go_enter Try.func3, Try.ntmps3
  go_wp2_with fail
  refine B8.mono ?_
  rintro r w' ⟨B, rfl, hw⟩
  subst hw
  clear B8
  cases B with
  | false =>
    go_wp2_with fail
    go_ret
    exact ⟨rfl, Below.refl _ _⟩
  | true =>
  go_wp2_with fail
  refine L9.mono ?_
  rintro r w1 ⟨B, rfl, hb1, hgood⟩
  clear L9
  cases B with
  | false =>
    clear hgood
    go_wp2_with fail
    go_ret
    exact ⟨rfl, hb1⟩
  | true =>
  have hg := hgood.1 rfl
  clear hgood
  obtain ⟨rfl, rfl⟩ : n1 = n0 ∧ n2 = n0 := ⟨hg.e1, hg.e2⟩
  have hL1 := hg.pos
  obtain ⟨x0, x1⟩ := bx
  obtain ⟨q0, o0, rfl, G0⟩ := r0 (by omega)
  obtain ⟨q1, o1, rfl, G1⟩ := r1 (by omega)
  obtain ⟨q2, o2, rfl, G2⟩ := r2 (by omega)
  have RR : Aside (Reads w' (some ⟨q0, o0, none⟩) n2 (fun i => .int .i32 (zl i)) ∧ Reads w' (some ⟨q1, o1, none⟩) n2 (fun i => .int .i32 (zr i)) ∧ Reads w' (some ⟨q2, o2, none⟩) n2 (fun i => .int .i32 (zu i))) := ⟨r0, r1, r2⟩
  have HG : Aside (Good n2 n2 n2 zl zr zu) := hg
  have BB : Aside ((∀ i, i < n2 → -2147483648 ≤ zl i ∧ zl i ≤ 2147483647) ∧ (∀ i, i < n2 → -2147483648 ≤ zr i ∧ zr i ≤ 2147483647) ∧ (∀ i, i < n2 → -2147483648 ≤ zu i ∧ zu i ≤ 2147483647)) := ⟨b0, b1, b2⟩
  clear r0 r1 r2 hg b0 b1 b2
  by_cases hx1 : x < 1
  · clear G0 G1 G2
    go_wp2_with fail
    go_ret
    exact ⟨rfl, hb1⟩
  by_cases hx2 : (n2 : Int) ≤ x
  · clear G0 G1 G2
    go_wp2_with fail
    go_ret
    exact ⟨rfl, hb1⟩
  obtain ⟨xn, rfl⟩ := Int.eq_ofNat_of_zero_le (show 0 ≤ x by omega)
  have hxv : Vx n2 xn := ⟨by omega, by omega⟩
  have hxr := (HG.out.rng xn hxv.1 hxv.2).2.2
  have H10 := heads10 q0 o0 q1 o1 q2 o2 n2 c0 c1 c2 xn zl zr zu w1 (by omega) hxv.2 (fun i hi => cell_later hb1 (G0 i hi)) (fun i hi => cell_later hb1 (G1 i hi)) (fun i hi => cell_later hb1 (G2 i hi)) hxr.1 hxr.2
  have XV : Aside (Vx n2 xn) := hxv
  clear G0 G1 G2 hxr hxv
  go_wp2_with fail
  refine H10.mono ?_
  rintro r w1' ⟨rfl, hw⟩
  have hw2 := hw.symm
  subst hw2
  clear H10 hw
  cases hhb : headB zl zr zu xn with
  | true =>
    clear hhb
    go_wp2_with fail
    go_ret
    exact ⟨rfl, hb1⟩
  | false =>
  obtain ⟨p, g, ex, hp0, hpL, kx, ep, hgL, xp, gp, gx, lx', rx'⟩ := HG.out.x_facts XV.out hhb
  have XF : Aside (zu xn = p ∧ 0 < p ∧ p < n2 ∧ (zl p = xn ∨ zr p = xn) ∧ zu p = g ∧ g < n2 ∧ xn ≠ p ∧ g ≠ p ∧ g ≠ xn ∧ (zl xn ≠ 0 → (zl xn).toNat ≠ xn ∧ (zl xn).toNat ≠ p) ∧ (zr xn ≠ 0 → (zr xn).toNat ≠ xn ∧ (zr xn).toNat ≠ p)) := ⟨ex, hp0, hpL, kx, ep, hgL, xp, gp, gx, lx', rx'⟩
  clear ex kx ep xp gp gx lx' rx' hhb
  go_wp2_with fail
  refine (clone11 _ _ _ zl _ (RR.out.1.below hb1) (by omega)).mono ?_
  rintro r w2 ⟨k0, rfl, R0, z0, hb2⟩
  have sz1 := hb1.size
  have bel := below_step hb1 hb2
  clear hb1 hb2
  go_wp2_with fail
  refine (clone11 _ _ _ zr _ (RR.out.2.1.below bel) (by omega)).mono ?_
  rintro r w3 ⟨k1, rfl, R1, z1, hb3⟩
  have l0 := R0.lt
  have R0 := row_below R0 hb3 R0.lt
  have bel := below_step bel hb3
  clear hb3
  go_wp2_with fail
  refine (clone11 _ _ _ zu _ (RR.out.2.2.below bel) (by omega)).mono ?_
  rintro r w4 ⟨k2, rfl, R2, z2, hb4⟩
  have l1 := R1.lt
  have R0 := row_below R0 hb4 R0.lt
  have R1 := row_below R1 hb4 R1.lt
  have bel := below_step bel hb4
  clear hb4 RR
  go_wp2_with fail
  refine (clone11 _ _ _ zl _ (Reads.of_row R0) (by omega)).mono ?_
  rintro r w5 ⟨s0, rfl, S0, y0, hb5⟩
  have l2 := R2.lt
  have R0 := row_below R0 hb5 R0.lt
  have R1 := row_below R1 hb5 R1.lt
  have R2 := row_below R2 hb5 R2.lt
  have bel := below_step bel hb5
  clear hb5
  go_wp2_with fail
  refine (clone11 _ _ _ zr _ (Reads.of_row R1) (by omega)).mono ?_
  rintro r w6 ⟨s1, rfl, S1, y1, hb6⟩
  have l3 := S0.lt
  have R0 := row_below R0 hb6 R0.lt
  have R1 := row_below R1 hb6 R1.lt
  have R2 := row_below R2 hb6 R2.lt
  have S0 := row_below S0 hb6 S0.lt
  have bel := below_step bel hb6
  clear hb6
  go_wp2_with fail
  refine (clone11 _ _ _ zu _ (Reads.of_row R2) (by omega)).mono ?_
  rintro r w7 ⟨s2, rfl, S2, y2, hb7⟩
  have l4 := S1.lt
  have R0 := row_below R0 hb7 R0.lt
  have R1 := row_below R1 hb7 R1.lt
  have R2 := row_below R2 hb7 R2.lt
  have S0 := row_below S0 hb7 S0.lt
  have S1 := row_below S1 hb7 S1.lt
  have bel := below_step bel hb7
  clear hb7
  go_wp2_with fail
  have Z12 := zzrot12 w4.heap.size s0 s1 s2 n2 xn p g zl zr zu w7 (by omega) S0 S1 S2 (by omega) (by omega) (by omega) y0 (by omega) (by omega) XV.out.2 XF.out.2.2.1 XF.out.2.2.2.2.2.1 XF.out.1 XF.out.2.2.2.2.1 XF.out.2.2.2.2.2.2.1 XF.out.2.2.2.2.2.2.2.1 XF.out.2.2.2.2.2.2.2.2.1 (HG.out.rng xn XV.out.1 XV.out.2).1 (HG.out.rng xn XV.out.1 XV.out.2).2.1 XF.out.2.2.2.2.2.2.2.2.2.1 XF.out.2.2.2.2.2.2.2.2.2.2
  refine Z12.mono ?_
  rintro r w8 ⟨rfl, zl1, zr1, zl', zr', zu', h1, h2, hRW⟩
  have ROT : Aside (Rotated n2 zl zr zu zl' zr' zu' xn p) := rotated HG.out XV.out XF.out.2.1 XF.out.1 XF.out.2.2.2.2.1 XF.out.2.2.2.1 h1 h2 XF.out.2.2.2.2.2.2.2.2.1 XF.out.2.2.2.2.2.2.2.1
  have R0 := row_below R0 hRW.bel (by omega)
  have R1 := row_below R1 hRW.bel (by omega)
  have R2 := row_below R2 hRW.bel (by omega)
  have S0 := hRW.rl
  have S1 := hRW.rr
  have S2 := hRW.ru
  have bel := bel.trans (hRW.bel.mono (by omega))
  clear hRW Z12 h1 h2 zl1 zr1
  have u0 := S0.cell (i := 0) (by omega)
  have u1 := S1.cell (i := 0) (by omega)
  have u2 := S2.cell (i := 0) (by omega)
  rw [ROT.out.z0.1] at u0
  rw [ROT.out.z0.2.1] at u1
  rw [ROT.out.z0.2.2] at u2
  have v0 := R0.cell (i := 0) (by omega)
  have v1 := R1.cell (i := 0) (by omega)
  have v2 := R2.cell (i := 0) (by omega)
  have hLz : (0 : Int) < (n2 : Int) := by omega
  have A8 : Aside (w8.rowIs k0 21 n2 (fun i => .int .i32 (zl i)) ∧ w8.rowIs k1 21 n2 (fun i => .int .i32 (zr i)) ∧ w8.rowIs k2 21 n2 (fun i => .int .i32 (zu i)) ∧ w8.rowIs s0 21 n2 (fun i => .int .i32 (zl' i)) ∧ w8.rowIs s1 21 n2 (fun i => .int .i32 (zr' i)) ∧ w8.rowIs s2 21 n2 (fun i => .int .i32 (zu' i)) ∧ Below w'.heap.size w' w8) := ⟨R0, R1, R2, S0, S1, S2, bel⟩
  clear R0 R1 R2 S0 S1 S2 bel
  go_wp2
  go_quiet (fail)
  have hBl : ∀ i, i < n2 → -2147483648 ≤ zl' i ∧ zl' i ≤ 2147483647 := fun i hi => by
    by_cases h0 : i = 0
    · subst h0; rw [ROT.out.z0.1]; exact BB.out.1 0 hi
    · have := ROT.out.good.rng i (by omega) hi; omega
  have hBr : ∀ i, i < n2 → -2147483648 ≤ zr' i ∧ zr' i ≤ 2147483647 := fun i hi => by
    by_cases h0 : i = 0
    · subst h0; rw [ROT.out.z0.2.1]; exact BB.out.2.1 0 hi
    · have := ROT.out.good.rng i (by omega) hi; omega
  have hBu : ∀ i, i < n2 → -2147483648 ≤ zu' i ∧ zu' i ≤ 2147483647 := fun i hi => by
    by_cases h0 : i = 0
    · subst h0; rw [ROT.out.z0.2.2]; exact BB.out.2.2 0 hi
    · have := ROT.out.good.rng i (by omega) hi; omega
  obtain ⟨R0, R1, R2, S0, S1, S2, bel⟩ := A8.out
  have dr : Below w8.heap.size w8 (w8.drewN nq) := below_drewN (Below.refl _ _) nq
  have R0 := row_below R0 dr R0.lt
  have R1 := row_below R1 dr R1.lt
  have R2 := row_below R2 dr R2.lt
  have S0 := row_below S0 dr S0.lt
  have S1 := row_below S1 dr S1.lt
  have S2 := row_below S2 dr S2.lt
  have bel := below_step bel dr
  have L9 := lcOk9 _ _ _ n2 n2 n2 n2 n2 n2 zl' zr' zu' (w8.drewN nq) (by omega) (by omega) (by omega) (Reads.of_row S0) (Reads.of_row S1) (Reads.of_row S2) hBl hBr hBu
  clear u0 u1 u2 v0 v1 v2 hBl hBr hBu A8 dr
  have A8 : Aside ((w8.drewN nq).rowIs k0 21 n2 (fun i => .int .i32 (zl i)) ∧ (w8.drewN nq).rowIs k1 21 n2 (fun i => .int .i32 (zr i)) ∧ (w8.drewN nq).rowIs k2 21 n2 (fun i => .int .i32 (zu i)) ∧ (w8.drewN nq).rowIs s0 21 n2 (fun i => .int .i32 (zl' i)) ∧ (w8.drewN nq).rowIs s1 21 n2 (fun i => .int .i32 (zr' i)) ∧ (w8.drewN nq).rowIs s2 21 n2 (fun i => .int .i32 (zu' i)) ∧ Below w'.heap.size w' (w8.drewN nq)) := ⟨R0, R1, R2, S0, S1, S2, bel⟩
  clear R0 R1 R2 S0 S1 S2 bel
  go_wp2_with fail
  refine L9.mono ?_
  rintro r w9 ⟨B, rfl, hb9, hgood⟩
  obtain rfl : B = true := hgood.2 ROT.out.good
  clear L9 hgood
  obtain ⟨R0, R1, R2, S0, S1, S2, bel⟩ := A8.out
  have R0 := row_below R0 hb9 R0.lt
  have R1 := row_below R1 hb9 R1.lt
  have R2 := row_below R2 hb9 R2.lt
  have S0 := row_below S0 hb9 S0.lt
  have S1 := row_below S1 hb9 S1.lt
  have S2 := row_below S2 hb9 S2.lt
  have bel := below_step bel hb9
  clear A8 hb9
  obtain ⟨T, hT⟩ := HG.out.ok.trav
  obtain ⟨T', hT'⟩ := ROT.out.good.ok.trav
  have TT : Aside (Trav (nat zl) (nat zr) n2 T ∧ Trav (nat zl') (nat zr') n2 T') := ⟨hT, hT'⟩
  clear hT hT'
  go_wp2_with fail
  refine (splay13 k0 k1 k2 n2 zl zr zu T w9 (by omega) hL1 HG.out.rng HG.out.ok TT.out.1 R0 R1 R2).mono ?_
  rintro r w10 ⟨f0, p0, d0, q0', F0, P0, D0, Q0, rfl, hF0, hP0, hD0, hQ0, hDn0, hb10⟩
  have R0 := row_below R0 hb10 R0.lt
  have R1 := row_below R1 hb10 R1.lt
  have R2 := row_below R2 hb10 R2.lt
  have S0 := row_below S0 hb10 S0.lt
  have S1 := row_below S1 hb10 S1.lt
  have S2 := row_below S2 hb10 S2.lt
  have bel := below_step bel hb10
  clear hb10
  go_wp2_with fail
  refine (splay13 s0 s1 s2 n2 zl' zr' zu' T' w10 (by omega) hL1 ROT.out.good.rng ROT.out.good.ok TT.out.2 S0 S1 S2).mono ?_
  rintro r w11 ⟨f1, p1, d1, q1', F1, P1, D1, Q1, rfl, hF1, hP1, hD1, hQ1, hDn1, hb11⟩
  have R0 := row_below R0 hb11 R0.lt
  have R1 := row_below R1 hb11 R1.lt
  have R2 := row_below R2 hb11 R2.lt
  have hF0 := row_below hF0 hb11 hF0.lt
  have hP0 := row_below hP0 hb11 hP0.lt
  have hD0 := row_below hD0 hb11 hD0.lt
  have hQ0 := row_below hQ0 hb11 hQ0.lt
  have bel := below_step bel hb11
  clear hb11 S0 S1 S2
  have DN : Aside (Done (nat zl) (nat zr) (nat zu) n2 T zu F0 P0 D0 Q0 n2 ∧ Done (nat zl') (nat zr') (nat zu') n2 T' zu' F1 P1 D1 Q1 n2) := ⟨hDn0, hDn1⟩
  have W11 : Aside (w11.rowIs k0 21 n2 (fun i => .int .i32 (zl i)) ∧ w11.rowIs k1 21 n2 (fun i => .int .i32 (zr i)) ∧ w11.rowIs k2 21 n2 (fun i => .int .i32 (zu i)) ∧ Below w'.heap.size w' w11) := ⟨R0, R1, R2, bel⟩
  have V0 : Aside (w11.rowIs f0 21 n2 (fun i => .int .i32 (F0 i)) ∧ w11.rowIs p0 21 n2 (fun i => .int .i32 (P0 i)) ∧ w11.rowIs d0 21 n2 (fun i => .int .i32 (D0 i)) ∧ w11.rowIs q0' 21 n2 (fun i => .int .i32 (Q0 i))) := ⟨hF0, hP0, hD0, hQ0⟩
  have V1 : Aside (w11.rowIs f1 21 n2 (fun i => .int .i32 (F1 i)) ∧ w11.rowIs p1 21 n2 (fun i => .int .i32 (P1 i)) ∧ w11.rowIs d1 21 n2 (fun i => .int .i32 (D1 i)) ∧ w11.rowIs q1' 21 n2 (fun i => .int .i32 (Q1 i))) := ⟨hF1, hP1, hD1, hQ1⟩
  clear hDn0 hDn1 R0 R1 R2 bel hF0 hP0 hD0 hQ0 hF1 hP1 hD1 hQ1
  have ux := W11.out.2.2.1.cell XV.out.2
  rw [XF.out.1] at ux
  have lxc := W11.out.1.cell XV.out.2
  have rxc := W11.out.2.1.cell XV.out.2
  have lpc := W11.out.1.cell hpL
  have rpc := W11.out.2.1.cell hpL
  have hxz : (xn : Int) < (n2 : Int) := by omega
  have hpz : (p : Int) < (n2 : Int) := by omega
  obtain ⟨n_lx, e_lx⟩ := Int.eq_ofNat_of_zero_le (HG.out.rng xn XV.out.1 XV.out.2).1.1
  obtain ⟨n_rx, e_rx⟩ := Int.eq_ofNat_of_zero_le (HG.out.rng xn XV.out.1 XV.out.2).2.1.1
  obtain ⟨n_lp, e_lp⟩ := Int.eq_ofNat_of_zero_le (HG.out.rng p hp0 hpL).1.1
  obtain ⟨n_rp, e_rp⟩ := Int.eq_ofNat_of_zero_le (HG.out.rng p hp0 hpL).2.1.1
  have NB : Aside (n_lx < n2 ∧ n_rx < n2 ∧ n_lp < n2 ∧ n_rp < n2) := by
    have h1 := HG.out.rng xn XV.out.1 XV.out.2
    have h2 := HG.out.rng p hp0 hpL
    simp only [Aside]; omega
  rw [e_lx] at lxc
  rw [e_rx] at rxc
  rw [e_lp] at lpc
  rw [e_rp] at rpc
  have EE : Aside (zl xn = n_lx ∧ zr xn = n_rx ∧ zl p = n_lp ∧ zr p = n_rp) := ⟨e_lx, e_rx, e_lp, e_rp⟩
  clear e_lx e_rx e_lp e_rp
  go_upto_if 151 with (fail)
  go_cut [22, 23] (fun v22 v23 wc => ∃ on ot : Nat, v22 = .int .i32 on ∧ v23 = .int .i32 ot ∧ wc = w11 ∧ on < n2 ∧ ot < n2 ∧ (zl p = xn → (on : Int) = zl xn ∧ (ot : Int) = zr p) ∧ (zl p ≠ xn → (on : Int) = zr xn ∧ (ot : Int) = zl p))
  case first =>
    by_cases hq : n_lp = xn
    · have hq' : ((n_lp : Int) == (xn : Int)) = true := by simp [hq]
      have HQ : Aside (zl p = xn) := by show zl p = (xn : Int); rw [EE.out.2.2.1, hq]
      clear hq
      go_wp2
      go_meet
      case rel => exact ⟨n_lx, n_rp, rfl, rfl, rfl, NB.out.1, NB.out.2.2.2, fun _ => ⟨EE.out.1.symm, EE.out.2.2.2.symm⟩, fun h => absurd HQ.out h⟩
    · have hq' : ((n_lp : Int) == (xn : Int)) = false := by simp; omega
      have HQ : Aside (zl p ≠ xn) := by show zl p ≠ (xn : Int); rw [EE.out.2.2.1]; intro e; omega
      clear hq
      go_wp2
      go_meet
      case rel => exact ⟨n_rx, n_lp, rfl, rfl, rfl, NB.out.2.1, NB.out.2.2.1, fun h => absurd h HQ.out, fun _ => ⟨EE.out.2.1.symm, EE.out.2.2.1.symm⟩⟩
  case rest =>
    clear ux lxc rxc lpc rpc EE NB
    clear n_lx n_rx n_lp n_rp
    obtain ⟨on, ot, rfl, rfl, hw, hon, hot, ho1, ho2⟩ := hcut
    subst hw
    have HO : Aside ((zl p = xn → (on : Int) = zl xn ∧ (ot : Int) = zr p) ∧ (zl p ≠ xn → (on : Int) = zr xn ∧ (ot : Int) = zl p)) := ⟨ho1, ho2⟩
    clear ho1 ho2
    have mk29 := run_make_row' (P := Try.prog) 29 4 (.bool false) 1 Try.underlying29 Try.info4 rfl .i64 .i64 n2 (by omega) (by omega)
    go_wp2_with fail
    clear mk29
    have dDn := (World.rowIs_made wc (.bool false) n2 4).alloc (.cells (madeCells #[.bool false] n2) 4)
    have dRs := World.rowIs_made (wc.alloc (.cells (madeCells #[.bool false] n2) 4)) (.bool false) n2 4
    simp only [World.size_alloc] at dRs
    have ba : Below wc.heap.size wc ((wc.alloc (.cells (madeCells #[.bool false] n2) 4)).alloc (.cells (madeCells #[.bool false] n2) 4)) := ((Below.refl _ _).alloc (Nat.le_refl _) _).alloc (by simp) _
    have lk0 := W11.out.1.lt
    have lk1 := W11.out.2.1.lt
    obtain ⟨c1, hc1⟩ : ∃ c1 : Nat, True := ⟨0, trivial⟩
    have hnl := fun i h0 h1 => (HG.out.rng i h0 h1).1.1
    have hnr := fun i h0 h1 => (HG.out.rng i h0 h1).2.1.1
    refine (mark14_any k0 k1 n2 wc.heap.size on zl zr (nat zu) T (fun _ => false) _ (by omega) HG.out.ok TT.out.1 hon hnl hnr (row_below W11.out.1 ba lk0) (row_below W11.out.2.1 ba lk1) dDn (by omega) (by omega)).mono ?_
    rintro r w12 ⟨rfl, md, hmd, hmd2, on12⟩
    have dRs := on12.row dRs (by omega)
    have K12 : ∀ b t f, wc.rowIs b t n2 f → w12.rowIs b t n2 f := fun b t f h => on12.row (row_below h ba h.lt) (by have := h.lt; omega)
    have bel12 : Below wc.heap.size wc w12 := Only.below ba on12 (Nat.le_refl _) (by have := ba.size; omega)
    have s12 := dRs.lt
    have K12' : Aside (∀ b t f, wc.rowIs b t n2 f → w12.rowIs b t n2 f) := K12
    have M12 : Aside (w12.rowIs wc.heap.size 4 n2 (fun j => .bool (md j)) ∧ w12.rowIs (wc.heap.size + 1) 4 n2 (fun _ => .bool false) ∧ Below wc.heap.size wc w12) := ⟨hmd, dRs, bel12⟩
    have MD : Aside (∀ v, v < n2 → (md v = true ↔ v ∈ (T 0 on).map Prod.fst)) := fun v hv => by have := hmd2 v hv; simpa using this
    clear K12 bel12 hmd hmd2 on12 dRs dDn ba hnl hnr
    go_wp2_with fail
    refine (mark14_any k0 k1 n2 (wc.heap.size + 1) ot zl zr (nat zu) T (fun _ => false) w12 (by omega) HG.out.ok TT.out.1 hot (fun i h0 h1 => (HG.out.rng i h0 h1).1.1) (fun i h0 h1 => (HG.out.rng i h0 h1).2.1.1) (K12'.out _ _ _ W11.out.1) (K12'.out _ _ _ W11.out.2.1) M12.out.2.1 (by omega) (by omega)).mono ?_
    rintro r w13 ⟨rfl, mr, hmr, hmr2, on13⟩
    have K13 : Aside (∀ b t f, wc.rowIs b t n2 f → w13.rowIs b t n2 f) := fun b t f h => on13.row (K12'.out b t f h) (by have := h.lt; omega)
    have hmd13 := on13.row M12.out.1 (by omega)
    have bel13 : Below wc.heap.size wc w13 := Only.below M12.out.2.2 on13 (by omega) (by have := M12.out.2.2.size; omega)
    have MR : Aside (∀ v, v < n2 → (mr v = true ↔ v ∈ (T 0 ot).map Prod.fst)) := fun v hv => by have := hmr2 v hv; simpa using this
    have cd := hmd13.cell XV.out.2
    have fd := hmd13.frozen xn
    have cr := hmr.cell hpL
    have fr := hmr.frozen p
    have M13 : Aside (w13.rowIs wc.heap.size 4 n2 (fun j => .bool (md j)) ∧ w13.rowIs (wc.heap.size + 1) 4 n2 (fun j => .bool (mr j)) ∧ Below wc.heap.size wc w13) := ⟨hmd13, hmr, bel13⟩
    clear on13 hmd13 hmr hmr2 bel13 K12' M12
    go_wp2_with fail
    obtain ⟨w14, hw14⟩ : ∃ w14 : World, w14 = (w13.setCell ⟨wc.heap.size, xn, none⟩ (.bool true)).setCell ⟨wc.heap.size + 1, p, none⟩ (.bool true) := ⟨_, rfl⟩
    have K14 : Aside (∀ b t f, wc.rowIs b t n2 f → w14.rowIs b t n2 f) := fun b t f h => by
      have h1 := K13.out b t f h
      have h2 := h.lt
      rw [hw14]
      exact (h1.setOther (by show b ≠ wc.heap.size; omega) _).setOther (by show b ≠ wc.heap.size + 1; omega) _
    have D14 : Aside (w14.rowIs wc.heap.size 4 n2 (fun j => .bool (upd md xn true j)) ∧ w14.rowIs (wc.heap.size + 1) 4 n2 (fun j => .bool (upd mr p true j)) ∧ Below w'.heap.size w' w14) := by
      rw [hw14]
      refine ⟨(row_upd (c := fun n : Bool => .bool n) M13.out.1 true).setOther (by simp) _, row_upd (c := fun n : Bool => .bool n) (M13.out.2.1.setOther (by simp) _) true, ?_⟩
      refine below_step W11.out.2.2.2 ?_
      exact (M13.out.2.2.setCell (by simp) _).setCell (by simp) _
    rw [← hw14]
    clear hw14 cd fd cr fr M13 K13
    go_loopg [26] (n2 - 1) (fun g i wx => ∃ v : Nat, 1 ≤ v ∧ v ≤ n2 ∧ g = n2 - v ∧ i = .int .i64 v ∧ Below w14.heap.size w14 wx)
    case atStart => exact ⟨1, Nat.le_refl _, by omega, rfl, rfl, Below.refl _ _⟩
    case round =>
      obtain ⟨v, hv1, hv, rfl, rfl, hbx⟩ := hrel
      by_cases hlt : v < n2
      · have hvz : (v : Int) < (n2 : Int) := by omega
        have HL := last HG.out XV.out XF.out.1 XF.out.2.1 XF.out.2.2.2.1 ROT.out TT.out.1 TT.out.2 DN.out.1 DN.out.2 HO.out (dn := upd md xn true) (rs := upd mr p true)
          (fun v hv => by
            by_cases e : v = xn
            · rw [e, upd_same]; simp
            · rw [upd_other _ _ _ _ e, MD.out v hv]; simp [e])
          (fun v hv => by
            by_cases e : v = p
            · rw [e, upd_same]; simp
            · rw [upd_other _ _ _ _ e, MR.out v hv]; simp [e]) (v := v) ⟨by omega, hlt⟩
        have get : ∀ b t f, wc.rowIs b t n2 f → wr.cell? ⟨b, v, none⟩ = some (f v) := fun b t f h => by
          have h1 := K14.out b t f h
          exact (row_below h1 hbx h1.lt).cell hlt
        have g0 := get _ _ _ V0.out.1
        have g1 := get _ _ _ V0.out.2.1
        have g2 := get _ _ _ V0.out.2.2.1
        have g3 := get _ _ _ V0.out.2.2.2
        have g4 := get _ _ _ V1.out.1
        have g5 := get _ _ _ V1.out.2.1
        have g7 := get _ _ _ V1.out.2.2.1
        have g6 := get _ _ _ V1.out.2.2.2
        have gd := (row_below D14.out.1 hbx D14.out.1.lt).cell hlt
        have gr := (row_below D14.out.2.1 hbx D14.out.2.1.lt).cell hlt
        rw [HL.1] at g4
        rw [HL.2.1] at g5
        rw [HL.2.2.1] at g6
        have A : Aside (Below w14.heap.size w14 wr) := hbx
        clear get hbx
        cases hdn : upd md xn true v with
        | false =>
          cases hrs : upd mr p true v with
          | false =>
            have e4 : D1 v = D0 v := by rw [HL.2.2.2.1, hdn, hrs]; simp
            rw [e4] at g7
            rw [hdn] at gd
            rw [hrs] at gr
            obtain ⟨_, _, _, _, hD0a, hD0b⟩ := HL
            clear e4 hdn hrs
            go_wp2
            go_quiet (fail)
            go_wp2
            go_roundg (n2 - (v + 1))
            case rel =>
              go_light
              exact ⟨v + 1, by omega, by omega, rfl, by go_num, below_step A.out (below_drewN (Below.refl _ _) _)⟩
            case measure => go_light; omega
          | true =>
            have e4 : D1 v = D0 v + 1 := by rw [HL.2.2.2.1, hdn, hrs]; simp
            rw [e4] at g7
            rw [hdn] at gd
            rw [hrs] at gr
            obtain ⟨_, _, _, _, hD0a, hD0b⟩ := HL
            clear e4 hdn hrs
            go_wp2
            go_quiet (fail)
            go_wp2
            go_roundg (n2 - (v + 1))
            case rel =>
              go_light
              exact ⟨v + 1, by omega, by omega, rfl, by go_num, below_step A.out (below_drewN (Below.refl _ _) _)⟩
            case measure => go_light; omega
        | true =>
          cases hrs : upd mr p true v with
          | false =>
            have e4 : D1 v = D0 v - 1 := by rw [HL.2.2.2.1, hdn, hrs]; simp
            rw [e4] at g7
            rw [hdn] at gd
            rw [hrs] at gr
            obtain ⟨_, _, _, _, hD0a, hD0b⟩ := HL
            clear e4 hdn hrs
            go_wp2
            go_quiet (fail)
            go_wp2
            go_roundg (n2 - (v + 1))
            case rel =>
              go_light
              exact ⟨v + 1, by omega, by omega, rfl, by go_num, below_step A.out (below_drewN (Below.refl _ _) _)⟩
            case measure => go_light; omega
          | true =>
            have e4 : D1 v = D0 v - 1 + 1 := by rw [HL.2.2.2.1, hdn, hrs]; simp
            rw [e4] at g7
            rw [hdn] at gd
            rw [hrs] at gr
            obtain ⟨_, _, _, _, hD0a, hD0b⟩ := HL
            clear e4 hdn hrs
            go_wp2
            go_quiet (fail)
            go_wp2
            go_roundg (n2 - (v + 1))
            case rel =>
              go_light
              exact ⟨v + 1, by omega, by omega, rfl, by go_num, below_step A.out (below_drewN (Below.refl _ _) _)⟩
            case measure => go_light; omega
      · obtain rfl : v = n2 := by omega
        have hfin := below_step D14.out.2.2 hbx
        clear hbx
        go_wp2
        go_ret
        exact ⟨rfl, hfin⟩
end Go.Proofs.Qxb6602963a
