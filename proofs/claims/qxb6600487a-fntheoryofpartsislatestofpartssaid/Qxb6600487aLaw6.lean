import Derived.Test.Qxb6600487aEnds
import Derived.Test.Qxb6600487aClone
import Derived.Deep.DeepCutAuto
namespace Go.Proofs.Qxb6600487a
open Go.RowKit
set_option linter.unusedVariables false

theorem draws2 (w : World) (a b : Nat) : ∃ m, (w.drewN a).drewN b = w.drewN m := ⟨a + b, World.drewN_drewN _ _ _⟩
theorem draws3 (w : World) (a b c : Nat) : ∃ m, ((w.drewN a).drewN b).drewN c = w.drewN m := ⟨a + (b + c), by rw [World.drewN_drewN, World.drewN_drewN]⟩
theorem below_step {w w1 w2 : World} (h1 : Below w.heap.size w w1) (h2 : Below w1.heap.size w1 w2) : Below w.heap.size w w2 := h1.trans (h2.mono h1.size)

set_option maxHeartbeats 4000000 in
set_option maxRecDepth 100000 in
theorem law6 (a0 a1 a2 a3 a4 : Option Addr) (n0 n1 n2 n3 n4 c0 c1 c2 c3 c4 : Nat) (b : Nat → Bool) (d e s x : Nat → Int) (w : World)
    (h0 : n0 ≤ maxLen) (h1 : n1 ≤ maxLen) (h2 : n2 ≤ maxLen) (h3 : n3 ≤ maxLen) (h4 : n4 ≤ maxLen)
    (z0 : a0 = none → n0 = 0) (z1 : a1 = none → n1 = 0) (z2 : a2 = none → n2 = 0) (z3 : a3 = none → n3 = 0) (z4 : a4 = none → n4 = 0)
    (r0 : Reads w a0 n0 (fun i => .bool (b i))) (r1 : Reads w a1 n1 (fun i => .int .i64 (d i))) (r2 : Reads w a2 n2 (fun i => .int .i64 (e i))) (r3 : Reads w a3 n3 (fun i => .int .u8 (s i))) (r4 : Reads w a4 n4 (fun i => .int .i64 (x i))) :
    Calls Try.prog 6 #[.slice a0 n0 c0, .slice a1 n1 c1, .slice a2 n2 c2, .slice a3 n3 c3, .slice a4 n4 c4] w fun r w' => r = .returned (.bool true) ∧ Below w.heap.size w w' := by
  have B23 := bytes23 a0 a1 a2 a3 a4 n0 n1 n2 n3 n4 c0 c1 c2 c3 c4 w h0 h1 h2 h3 h4
  have B24 := dom24 a0 a1 a2 a3 a4 n0 n1 n2 n3 n4 c0 c1 c2 c3 c4 d e x w h0 h1 h2 h3 h4 r1 r2 r4
  unfold maxLen at h0 h1 h2 h3 h4
  by_cases t0 : 16384 < n0
  · go_enter Try.func6, Try.ntmps6
    go_wp2_with (go_at_call 23; refine B23.mono ?_; rintro r w' ⟨B, rfl, rfl⟩)
    all_goals (go_ret; exact ⟨rfl, Below.refl _ _⟩)
  by_cases t1 : 16384 < n1
  · go_enter Try.func6, Try.ntmps6
    go_wp2_with (go_at_call 23; refine B23.mono ?_; rintro r w' ⟨B, rfl, rfl⟩)
    all_goals (go_ret; exact ⟨rfl, Below.refl _ _⟩)
  by_cases t2 : 16384 < n2
  · go_enter Try.func6, Try.ntmps6
    go_wp2_with (go_at_call 23; refine B23.mono ?_; rintro r w' ⟨B, rfl, rfl⟩)
    all_goals (go_ret; exact ⟨rfl, Below.refl _ _⟩)
  by_cases t3 : 16384 < n3
  · go_enter Try.func6, Try.ntmps6
    go_wp2_with (go_at_call 23; refine B23.mono ?_; rintro r w' ⟨B, rfl, rfl⟩)
    all_goals (go_ret; exact ⟨rfl, Below.refl _ _⟩)
  by_cases t4 : 16384 < n4
  · go_enter Try.func6, Try.ntmps6
    go_wp2_with (go_at_call 23; refine B23.mono ?_; rintro r w' ⟨B, rfl, rfl⟩)
    all_goals (go_ret; exact ⟨rfl, Below.refl _ _⟩)
  go_enter Try.func6, Try.ntmps6
  go_wp2_with fail
  refine B23.mono ?_
  rintro r w' ⟨B, rfl, rfl⟩
  clear B23
  cases B with
  | false =>
    go_wp2_with fail
    go_ret
    exact ⟨rfl, Below.refl _ _⟩
  | true =>
  go_wp2_with fail
  refine B24.mono ?_
  rintro r w' ⟨B, rfl, rfl, hdom⟩
  clear B24
  cases B with
  | false =>
    go_wp2_with fail
    go_ret
    exact ⟨rfl, Below.refl _ _⟩
  | true =>
  obtain ⟨rfl, rfl, rfl, rfl, hd⟩ := hdom rfl
  clear hdom
  go_wp2_with fail
  refine (cloneBools _ _ _ b _ r0 (by omega) z0).mono ?_
  rintro r w1 ⟨A0, C0, rfl, R0, hb1⟩
  go_wp2_with fail
  refine (cloneInts _ _ _ d _ (r1.below hb1) (by omega) z1).mono ?_
  rintro r w2 ⟨A1, C1, rfl, R1, hb2⟩
  go_wp2_with fail
  refine (cloneInts _ _ _ e _ ((r2.below hb1).below hb2) (by omega) z2).mono ?_
  rintro r w3 ⟨A2, C2, rfl, R2, hb3⟩
  go_wp2_with fail
  refine (cloneU8s _ _ _ s _ (((r3.below hb1).below hb2).below hb3) (by omega) z3).mono ?_
  rintro r w4 ⟨A3, C3, rfl, R3, hb4⟩
  go_wp2_with fail
  refine (cloneInts _ _ _ x _ ((((r4.below hb1).below hb2).below hb3).below hb4) (by omega) z4).mono ?_
  rintro r w5 ⟨A4, C4, rfl, R4, hb5⟩
  have bel : Below w'.heap.size w' w5 := below_step (below_step (below_step (below_step hb1 hb2) hb3) hb4) hb5
  have Q0 := (((R0.below hb2).below hb3).below hb4).below hb5
  have Q1 := ((R1.below hb3).below hb4).below hb5
  have Q2 := (R2.below hb4).below hb5
  have Q3 := R3.below hb5
  clear R0 R1 R2 R3 hb1 hb2 hb3 hb4 hb5 r0 r1 r2 r3 r4 z0 z1 z2 z3 z4
  go_wp2_with fail
  refine (parts28 _ _ _ _ _ _ _ _ _ _ _ b d e s x _ (by omega) Q0 Q1 Q2 Q3 R4 hd).mono ?_
  rintro r w6 ⟨eb, rfl, hE, hb6⟩
  have bel6 := below_step bel hb6
  have Q0 := Q0.below hb6
  have Q1 := Q1.below hb6
  have Q2 := Q2.below hb6
  have Q3 := Q3.below hb6
  have Q4 := R4.below hb6
  clear hb6 bel R4
  generalize hD : mx d n4 = D
  generalize hEc : mx e n4 = E
  generalize hF : mx (fun i => fst' (b i) (e i) (s i) (x i)) n4 = F
  generalize hL : mx (fun i => lst' (b i) (d i) (e i) (s i) (x i)) n4 = L
  generalize hB : al b n4 = B
  have EQ : Aside (mx d n4 = D ∧ mx e n4 = E ∧ mx (fun i => fst' (b i) (e i) (s i) (x i)) n4 = F ∧ mx (fun i => lst' (b i) (d i) (e i) (s i) (x i)) n4 = L ∧ al b n4 = B) := ⟨hD, hEc, hF, hL, hB⟩
  clear hD hEc hF hL hB
  go_wp2_with fail
  refine (len29 _ _ _ _ _ _ _ _ _).mono ?_
  rintro r w7 ⟨rfl, hb7⟩
  have bel7 := below_step (below_step bel6 ((Below.refl _ _).alloc (Nat.le_refl _) _)) hb7
  have ba := ((Below.refl w6.heap.size w6).alloc (Nat.le_refl _) (.cells #[.bool B, .int .i64 D, .int .i64 E, .int .i64 F, .int .i64 L, .slice (some ⟨eb, 0, none⟩) n4 n4, .slice none 0 0] 48))
  have Q0 := (Q0.below ba).below hb7
  have Q1 := (Q1.below ba).below hb7
  have Q2 := (Q2.below ba).below hb7
  have Q3 := (Q3.below ba).below hb7
  have Q4 := (Q4.below ba).below hb7
  have hE7 := row_below (hE.alloc (.cells #[.bool B, .int .i64 D, .int .i64 E, .int .i64 F, .int .i64 L, .slice (some ⟨eb, 0, none⟩) n4 n4, .slice none 0 0] 48)) hb7 (by have := hE.lt; simp; omega)
  have hT : w7.rowIs w6.heap.size 48 7 (thCells B D E F L (.slice (some ⟨eb, 0, none⟩) n4 n4)) := by
    refine row_below (World.rowIs_alloc w6 _ 48 _ ?_) hb7 (by simp)
    intro i hi
    match i, hi with
    | 0, _ | 1, _ | 2, _ | 3, _ | 4, _ | 5, _ | 6, _ => rfl
  clear hb7 ba hE bel6
  have t0 := hT.cell (i := 0) (by omega)
  have t1 := hT.cell (i := 1) (by omega)
  have t2 := hT.cell (i := 2) (by omega)
  have t3 := hT.cell (i := 3) (by omega)
  have t4 := hT.cell (i := 4) (by omega)
  simp only [thCells] at t0 t1 t2 t3 t4
  by_cases hn0 : n4 = 0
  · subst hn0
    obtain ⟨hD, hEc, hF, hL, hB⟩ := EQ.out
    simp only [mx, al] at hD hEc hF hL hB
    subst hD hEc hF hL hB
    clear EQ Q0 Q1 Q2 Q3 Q4 hT hE7 hd
    go_wp2
    go_ret
    exact ⟨rfl, bel7⟩
  · clear t0 t1 t2 t3 t4
    have ABel : Aside (Below w'.heap.size w' w7) := bel7
    clear bel7
    have HD : Aside (∀ (i : Nat), i < n4 → (0 ≤ d i ∧ d i < 1073741824) ∧ (0 ≤ e i ∧ e i < 1073741824) ∧ 0 ≤ x i ∧ x i < 1073741824) := hd
    clear hd
    have hz0 : ((n4 : Int) == 0) = false := by simp; omega
    go_wp2
    go_loopg [13, 14, 15, 16, 17, 18] n4 (fun g v13 v14 v15 v16 v17 i wr => ∃ k : Nat, k ≤ n4 ∧ g = n4 - k ∧ i = .int .i64 k ∧ v13 = .bool (al b k) ∧ v14 = .bool (hit d D k) ∧ v15 = .bool (hit e E k) ∧ v16 = .bool (hit (fun i => fst' (b i) (e i) (s i) (x i)) F k) ∧ v17 = .bool (hit (fun i => lst' (b i) (d i) (e i) (s i) (x i)) L k) ∧ Below w7.heap.size w7 wr)
    case atStart => exact ⟨0, Nat.zero_le _, rfl, rfl, rfl, rfl, rfl, rfl, rfl, Below.refl _ _⟩
    case round =>
      obtain ⟨k, hk, rfl, rfl, rfl, rfl, rfl, rfl, rfl, hbr⟩ := hrel
      by_cases hlt : k < n4
      · have hlz : (k : Int) < (n4 : Int) := by omega
        have h0z : (0 : Int) ≤ (k : Int) := by omega
        have hTr := row_below hT hbr hT.lt
        have hEr := row_below hE7 hbr hE7.lt
        have u0 := hTr.cell (i := 0) (by omega)
        have u1 := hTr.cell (i := 1) (by omega)
        have u2 := hTr.cell (i := 2) (by omega)
        have u3 := hTr.cell (i := 3) (by omega)
        have u4 := hTr.cell (i := 4) (by omega)
        have u5 := hTr.cell (i := 5) (by omega)
        have u6 := hTr.cell (i := 6) (by omega)
        simp only [thCells] at u0 u1 u2 u3 u4 u5 u6
        have bd := HD.out k hlt
        obtain ⟨f1, hf1⟩ : ∃ f1, fst' (b k) (e k) (s k) (x k) = f1 := ⟨_, rfl⟩
        obtain ⟨l1, hl1⟩ : ∃ l1, lst' (b k) (d k) (e k) (s k) (x k) = l1 := ⟨_, rfl⟩
        go_wp2_with fail
        refine (at30' _ _ _ _ _ _ _ _ b d e s x _ hlt (by omega) hEr f1 l1 hf1 hl1).mono ?_
        rintro r w8 ⟨rfl, hb8⟩
        clear u0 u1 u2 u3 u4 u5 u6 hTr hEr
        have hb9 := below_step hbr hb8
        have hTr := row_below hT hb9 hT.lt
        have u1 := hTr.cell (i := 1) (by omega)
        have u2 := hTr.cell (i := 2) (by omega)
        have u3 := hTr.cell (i := 3) (by omega)
        have u4 := hTr.cell (i := 4) (by omega)
        simp only [thCells] at u1 u2 u3 u4
        obtain ⟨b0, o0, rfl, G0⟩ := Q0 (by omega)
        obtain ⟨b1, o1, rfl, G1⟩ := Q1 (by omega)
        obtain ⟨b2, o2, rfl, G2⟩ := Q2 (by omega)
        obtain ⟨b3, o3, rfl, G3⟩ := Q3 (by omega)
        obtain ⟨b4, o4, rfl, G4⟩ := Q4 (by omega)
        have g0 : w8.cell? ⟨b0, o0 + k, none⟩ = some (.bool (b k)) := cell_later hb9 (G0 k hlt)
        have g1 : w8.cell? ⟨b1, o1 + k, none⟩ = some (.int .i64 (d k)) := cell_later hb9 (G1 k hlt)
        have g2 : w8.cell? ⟨b2, o2 + k, none⟩ = some (.int .i64 (e k)) := cell_later hb9 (G2 k hlt)
        have g3 : w8.cell? ⟨b3, o3 + k, none⟩ = some (.int .u8 (s k)) := cell_later hb9 (G3 k hlt)
        have g4 : w8.cell? ⟨b4, o4 + k, none⟩ = some (.int .i64 (x k)) := cell_later hb9 (G4 k hlt)
        have A : Aside (Below w7.heap.size w7 w8) := hb9
        have ld : d k ≤ D := by rw [← EQ.out.1]; exact mx_le d n4 k hlt
        have le : e k ≤ E := by rw [← EQ.out.2.1]; exact mx_le e n4 k hlt
        have lf : f1 ≤ F := by rw [← EQ.out.2.2.1, ← hf1]; exact mx_le (fun i => fst' (b i) (e i) (s i) (x i)) n4 k hlt
        have ll : l1 ≤ L := by rw [← EQ.out.2.2.2.1, ← hl1]; exact mx_le (fun i => lst' (b i) (d i) (e i) (s i) (x i)) n4 k hlt
        obtain ⟨⟨d0, d1⟩, ⟨e0, e1⟩, ⟨x0, x1⟩⟩ := bd
        have HS : Aside (al b (k + 1) = (al b k && b k) ∧ hit d D (k + 1) = (hit d D k || d k == D) ∧ hit e E (k + 1) = (hit e E k || e k == E) ∧ hit (fun i => fst' (b i) (e i) (s i) (x i)) F (k + 1) = (hit (fun i => fst' (b i) (e i) (s i) (x i)) F k || f1 == F) ∧
            hit (fun i => lst' (b i) (d i) (e i) (s i) (x i)) L (k + 1) = (hit (fun i => lst' (b i) (d i) (e i) (s i) (x i)) L k || l1 == L)) := ⟨rfl, rfl, rfl, by rw [← hf1]; rfl, by rw [← hl1]; rfl⟩
        clear G0 G1 G2 G3 G4 Q0 Q1 Q2 Q3 Q4 hTr hT hb9 hb8 hbr hE7 EQ HD ABel hn0
        have q1 : decide (D < d k) = false := decide_eq_false (by omega)
        have q2 : decide (E < e k) = false := decide_eq_false (by omega)
        have q3 : decide (F < f1) = false := decide_eq_false (by omega)
        have q4 : decide (L < l1) = false := decide_eq_false (by omega)
        generalize d k = dk at *
        generalize e k = ek at *
        generalize s k = sk at *
        generalize x k = xk at *
        generalize b k = bk at *
        generalize al b k = A0 at *
        generalize hit d D k = H1 at *
        generalize hit e E k = H2 at *
        generalize hit (fun i => fst' (b i) (e i) (s i) (x i)) F k = H3 at *
        generalize hit (fun i => lst' (b i) (d i) (e i) (s i) (x i)) L k = H4 at *
        go_upto_if 121 with (fail)
        go_cut [21, 22] (fun v21 v22 wc => v21 = .int .i64 f1 ∧ v22 = .int .i64 l1 ∧ ∃ m, wc = w8.drewN m)
        case first =>
          cases bk with
          | false =>
            simp only [fst', lst', Bool.false_eq_true, if_false] at hf1 hl1
            subst hf1; subst hl1
            go_wp2
            go_quiet (fail)
            go_wp2
            go_meet
            case rel => exact ⟨rfl, rfl, _, rfl⟩
          | true =>
            by_cases h3 : sk = 3
            · simp only [fst', lst', if_true, if_pos h3] at hf1 hl1
              subst hf1; subst hl1
              go_wp2
              go_meet
              case rel => exact ⟨rfl, rfl, 0, rfl⟩
            · simp only [fst', lst', if_true, if_neg h3] at hf1 hl1
              subst hf1; subst hl1
              go_wp2
              go_meet
              case rel => exact ⟨rfl, rfl, 0, rfl⟩
        case rest =>
          obtain ⟨rfl, rfl, m, rfl⟩ := hcut
          go_upto_if 170 with (fail)
          go_cut [13] (fun v wc => v = .bool (A0 && bk) ∧ ∃ m, wc = w8.drewN m)
          case first =>
            cases bk with
            | false =>
              go_wp2
              go_meet
              case rel => exact ⟨by simp, _, rfl⟩
            | true =>
              go_wp2
              go_meet
              case rel => exact ⟨by simp, _, rfl⟩
          case rest =>
            obtain ⟨rfl, m, rfl⟩ := hcut
            clear hf1 hl1
            go_wp2
            go_quiet (fail)
            go_wp2
            go_quiet (fail)
            go_upto_if 205 with (fail)
            go_cut [14] (fun v wc => v = .bool (H1 || dk == D) ∧ ∃ m, wc = w8.drewN m)
            case first =>
              by_cases hq : dk = D
              · go_wp2
                go_meet
                case rel => exact ⟨by simp [hq], by first | exact ⟨_, rfl⟩ | exact draws2 _ _ _ | exact draws3 _ _ _ _⟩
              · go_wp2
                go_meet
                case rel => exact ⟨by simp [hq], by first | exact ⟨_, rfl⟩ | exact draws2 _ _ _ | exact draws3 _ _ _ _⟩
            case rest =>
              obtain ⟨rfl, m, rfl⟩ := hcut
              go_wp2
              go_quiet (fail)
              go_upto_if 212 with (fail)
              go_cut [15] (fun v wc => v = .bool (H2 || ek == E) ∧ ∃ m, wc = w8.drewN m)
              case first =>
                by_cases hq : ek = E
                · go_wp2
                  go_meet
                  case rel => exact ⟨by simp [hq], by first | exact ⟨_, rfl⟩ | exact draws2 _ _ _ | exact draws3 _ _ _ _⟩
                · go_wp2
                  go_meet
                  case rel => exact ⟨by simp [hq], by first | exact ⟨_, rfl⟩ | exact draws2 _ _ _ | exact draws3 _ _ _ _⟩
              case rest =>
                obtain ⟨rfl, m, rfl⟩ := hcut
                go_upto_if 216 with (fail)
                go_cut [16] (fun v wc => v = .bool (H3 || f1 == F) ∧ ∃ m, wc = w8.drewN m)
                case first =>
                  by_cases hq : f1 = F
                  · go_wp2
                    go_meet
                    case rel => exact ⟨by simp [hq], by first | exact ⟨_, rfl⟩ | exact draws2 _ _ _ | exact draws3 _ _ _ _⟩
                  · go_wp2
                    go_meet
                    case rel => exact ⟨by simp [hq], by first | exact ⟨_, rfl⟩ | exact draws2 _ _ _ | exact draws3 _ _ _ _⟩
                case rest =>
                  obtain ⟨rfl, m, rfl⟩ := hcut
                  go_upto_if 220 with (fail)
                  by_cases hq : l1 = L
                  · go_wp2
                    go_roundg (n4 - (k + 1))
                    case rel =>
                      go_light
                      obtain ⟨s1, s2, s3, s4, s5⟩ := HS.out
                      have hb := below_drewN A.out m
                      exact ⟨k + 1, by omega, rfl, by go_num, by rw [s1], by rw [s2], by rw [s3], by rw [s4], by rw [s5]; simp [hq], hb⟩
                    case measure => go_light; omega
                  · go_wp2
                    go_roundg (n4 - (k + 1))
                    case rel =>
                      go_light
                      obtain ⟨s1, s2, s3, s4, s5⟩ := HS.out
                      have hb := below_drewN A.out m
                      exact ⟨k + 1, by omega, rfl, by go_num, by rw [s1], by rw [s2], by rw [s3], by rw [s4], by rw [s5]; simp [hq], hb⟩
                    case measure => go_light; omega
      · obtain rfl : k = n4 := by omega
        obtain ⟨hD, hEc, hF, hL, hB⟩ := EQ.out
        have hbr' := below_step ABel.out hbr
        have hTr := row_below hT hbr hT.lt
        have u0 := hTr.cell (i := 0) (by omega)
        simp only [thCells] at u0
        have m1 := hit_mx d k (by omega) (fun i hi => (HD.out i hi).1.1)
        have m2 := hit_mx e k (by omega) (fun i hi => (HD.out i hi).2.1.1)
        have m3 := hit_mx (fun i => fst' (b i) (e i) (s i) (x i)) k (by omega) (fun i hi => by have := HD.out i hi; simp only [fst']; split <;> (try split) <;> omega)
        have m4 := hit_mx (fun i => lst' (b i) (d i) (e i) (s i) (x i)) k (by omega) (fun i hi => by have := HD.out i hi; simp only [lst']; split <;> (try split) <;> omega)
        rw [hD] at m1; rw [hEc] at m2; rw [hF] at m3; rw [hL] at m4
        rw [m1, m2, m3, m4, hB]
        have A : Aside (Below w'.heap.size w' wr) := hbr'
        clear hD hEc hF hL hB m1 m2 m3 m4 hTr hT hE7 Q0 Q1 Q2 Q3 Q4 hbr hbr' EQ HD ABel
        go_wp2
        go_ret
        exact ⟨by simp, A.out⟩
end Go.Proofs.Qxb6600487a
