import Derived.Test.Qxb6600487aEnds
import Derived.Test.Qxb6600487aClone
import Derived.Deep.DeepCutAuto
namespace Go.Proofs.Qxb6600487a
open Go.RowKit
set_option linter.unusedVariables false

theorem below_step {w w1 w2 : World} (h1 : Below w.heap.size w w1) (h2 : Below w1.heap.size w1 w2) : Below w.heap.size w w2 := h1.trans (h2.mono h1.size)

/-- what is reached by every value of f, n of them -/
theorem mx_ge_iff (f : Nat → Int) (n : Nat) (M : Int) : mx f n ≤ M ↔ 0 ≤ M ∧ ∀ k, k < n → f k ≤ M := by
  induction n with
  | zero => simp [mx]
  | succ n ih =>
    simp only [mx]
    constructor
    · intro h
      have h1 := ih.1 (by omega)
      refine ⟨h1.1, fun k hk => ?_⟩
      by_cases e : k = n
      · subst e; omega
      · exact h1.2 k (by omega)
    · intro ⟨h0, h⟩
      have h1 := ih.2 ⟨h0, fun k hk => h k (by omega)⟩
      have h2 := h n (by omega)
      omega

theorem mx_rev (f : Nat → Int) (n : Nat) : mx (fun i => f (n - 1 - i)) n = mx f n := by
  apply Int.le_antisymm
  · rw [mx_ge_iff]
    have h := (mx_ge_iff f n (mx f n)).1 (Int.le_refl _)
    exact ⟨h.1, fun k hk => h.2 _ (by omega)⟩
  · rw [mx_ge_iff]
    have h := (mx_ge_iff (fun i => f (n - 1 - i)) n (mx (fun i => f (n - 1 - i)) n)).1 (Int.le_refl _)
    refine ⟨h.1, fun k hk => ?_⟩
    have := h.2 (n - 1 - k) (by omega)
    simpa only [show n - 1 - (n - 1 - k) = k by omega] using this

theorem al_iff (f : Nat → Bool) (n : Nat) : al f n = true ↔ ∀ k, k < n → f k = true := by
  induction n with
  | zero => simp [al]
  | succ n ih =>
    simp only [al, Bool.and_eq_true]
    rw [ih]
    constructor
    · intro ⟨h1, h2⟩ k hk
      by_cases e : k = n
      · subst e; exact h2
      · exact h1 k (by omega)
    · intro h
      exact ⟨fun k hk => h k (by omega), h n (by omega)⟩

theorem al_rev (f : Nat → Bool) (n : Nat) : al (fun i => f (n - 1 - i)) n = al f n := by
  rw [Bool.eq_iff_iff, al_iff, al_iff]
  constructor
  · intro h k hk
    have := h (n - 1 - k) (by omega)
    simpa only [show n - 1 - (n - 1 - k) = k by omega] using this
  · intro h k hk
    exact h _ (by omega)

structure Rv (w wr : World) (n k : Nat) (b : Nat → Bool) (d e s x : Nat → Int) : Prop where
  bel : Below w.heap.size w wr
  size : w.heap.size + 4 < wr.heap.size
  r0 : wr.rowIs w.heap.size 4 n (fun j => if j < k then .bool (b (n - 1 - j)) else .bool false)
  r1 : wr.rowIs (w.heap.size + 1) 3 n (fun j => if j < k then .int .i64 (d (n - 1 - j)) else .int .i64 0)
  r2 : wr.rowIs (w.heap.size + 1 + 1) 3 n (fun j => if j < k then .int .i64 (e (n - 1 - j)) else .int .i64 0)
  r3 : wr.rowIs (w.heap.size + 1 + 1 + 1) 5 n (fun j => if j < k then .int .u8 (s (n - 1 - j)) else .int .u8 0)
  r4 : wr.rowIs (w.heap.size + 1 + 1 + 1 + 1) 3 n (fun j => if j < k then .int .i64 (x (n - 1 - j)) else .int .i64 0)

theorem rv_start (w : World) (n : Nat) (b : Nat → Bool) (d e s x : Nat → Int) :
    Rv w (((((w.alloc (.cells (madeCells #[.bool false] n) 4)).alloc (.cells (madeCells #[.int .i64 0] n) 3)).alloc (.cells (madeCells #[.int .i64 0] n) 3)).alloc (.cells (madeCells #[.int .u8 0] n) 5)).alloc (.cells (madeCells #[.int .i64 0] n) 3)) n 0 b d e s x := by
  refine ⟨((((((Below.refl _ _).alloc (Nat.le_refl _) _).alloc (by simp) _).alloc (by simp; omega) _).alloc (by simp; omega) _).alloc (by simp; omega) _), by simp, ?_, ?_, ?_, ?_, ?_⟩
  · exact (((((World.rowIs_made w _ n 4).alloc _).alloc _).alloc _).alloc _).congr fun j _ => by simp
  · have h := World.rowIs_made (w.alloc (.cells (madeCells #[.bool false] n) 4)) (.int .i64 0) n 3
    simp only [World.size_alloc] at h
    exact (((h.alloc _).alloc _).alloc _).congr fun j _ => by simp
  · have h := World.rowIs_made ((w.alloc (.cells (madeCells #[.bool false] n) 4)).alloc (.cells (madeCells #[.int .i64 0] n) 3)) (.int .i64 0) n 3
    simp only [World.size_alloc] at h
    exact ((h.alloc _).alloc _).congr fun j _ => by simp
  · have h := World.rowIs_made (((w.alloc (.cells (madeCells #[.bool false] n) 4)).alloc (.cells (madeCells #[.int .i64 0] n) 3)).alloc (.cells (madeCells #[.int .i64 0] n) 3)) (.int .u8 0) n 5
    simp only [World.size_alloc] at h
    exact (h.alloc _).congr fun j _ => by simp
  · have h := World.rowIs_made ((((w.alloc (.cells (madeCells #[.bool false] n) 4)).alloc (.cells (madeCells #[.int .i64 0] n) 3)).alloc (.cells (madeCells #[.int .i64 0] n) 3)).alloc (.cells (madeCells #[.int .u8 0] n) 5)) (.int .i64 0) n 3
    simp only [World.size_alloc] at h
    exact h.congr fun j _ => by simp

theorem rv_step {w wr : World} {n k : Nat} {b : Nat → Bool} {d e s x : Nat → Int} (h : Rv w wr n k b d e s x) :
    Rv w (((((wr.setCell ⟨w.heap.size, k, none⟩ (.bool (b (n - 1 - k)))).setCell ⟨w.heap.size + 1, k, none⟩ (.int .i64 (d (n - 1 - k)))).setCell ⟨w.heap.size + 1 + 1, k, none⟩ (.int .i64 (e (n - 1 - k)))).setCell ⟨w.heap.size + 1 + 1 + 1, k, none⟩ (.int .u8 (s (n - 1 - k)))).setCell
      ⟨w.heap.size + 1 + 1 + 1 + 1, k, none⟩ (.int .i64 (x (n - 1 - k)))) n (k + 1) b d e s x := by
  refine ⟨?_, by simpa using h.size, ?_, ?_, ?_, ?_, ?_⟩
  · iterate 5 refine Below.setCell ?_ (by simp; try omega) _
    exact h.bel
  · iterate 4 refine World.rowIs.setOther ?_ (by simp; try omega) _
    exact row_step (f := fun j => .bool (b (n - 1 - j))) h.r0
  · iterate 3 refine World.rowIs.setOther ?_ (by simp; try omega) _
    exact row_step (f := fun j => .int .i64 (d (n - 1 - j))) (h.r1.setOther (by simp) _)
  · iterate 2 refine World.rowIs.setOther ?_ (by simp; try omega) _
    exact row_step (f := fun j => .int .i64 (e (n - 1 - j))) ((h.r2.setOther (by simp; try omega) _).setOther (by simp) _)
  · iterate 1 refine World.rowIs.setOther ?_ (by simp; try omega) _
    exact row_step (f := fun j => .int .u8 (s (n - 1 - j))) (((h.r3.setOther (by simp; try omega) _).setOther (by simp; try omega) _).setOther (by simp) _)
  · exact row_step (f := fun j => .int .i64 (x (n - 1 - j))) ((((h.r4.setOther (by simp; try omega) _).setOther (by simp; try omega) _).setOther (by simp; try omega) _).setOther (by simp) _)

set_option maxHeartbeats 4000000 in
set_option maxRecDepth 100000 in
theorem law7 (a0 a1 a2 a3 a4 : Option Addr) (n0 n1 n2 n3 n4 c0 c1 c2 c3 c4 : Nat) (b : Nat → Bool) (d e s x : Nat → Int) (w : World)
    (h0 : n0 ≤ maxLen) (h1 : n1 ≤ maxLen) (h2 : n2 ≤ maxLen) (h3 : n3 ≤ maxLen) (h4 : n4 ≤ maxLen)
    (z0 : a0 = none → n0 = 0) (z1 : a1 = none → n1 = 0) (z2 : a2 = none → n2 = 0) (z3 : a3 = none → n3 = 0) (z4 : a4 = none → n4 = 0)
    (r0 : Reads w a0 n0 (fun i => .bool (b i))) (r1 : Reads w a1 n1 (fun i => .int .i64 (d i))) (r2 : Reads w a2 n2 (fun i => .int .i64 (e i))) (r3 : Reads w a3 n3 (fun i => .int .u8 (s i))) (r4 : Reads w a4 n4 (fun i => .int .i64 (x i))) :
    Calls Try.prog 7 #[.slice a0 n0 c0, .slice a1 n1 c1, .slice a2 n2 c2, .slice a3 n3 c3, .slice a4 n4 c4] w fun r w' => r = .returned (.bool true) ∧ Below w.heap.size w w' := by
  have B31 := bytes31 a0 a1 a2 a3 a4 n0 n1 n2 n3 n4 c0 c1 c2 c3 c4 w h0 h1 h2 h3 h4
  have B24 := dom24 a0 a1 a2 a3 a4 n0 n1 n2 n3 n4 c0 c1 c2 c3 c4 d e x w h0 h1 h2 h3 h4 r1 r2 r4
  unfold maxLen at h0 h1 h2 h3 h4
  by_cases t0 : 16384 < n0
  · go_enter Try.func7, Try.ntmps7
    go_wp2_with (go_at_call 31; refine B31.mono ?_; rintro r w' ⟨B, rfl, rfl⟩)
    all_goals (go_ret; exact ⟨rfl, Below.refl _ _⟩)
  by_cases t1 : 16384 < n1
  · go_enter Try.func7, Try.ntmps7
    go_wp2_with (go_at_call 31; refine B31.mono ?_; rintro r w' ⟨B, rfl, rfl⟩)
    all_goals (go_ret; exact ⟨rfl, Below.refl _ _⟩)
  by_cases t2 : 16384 < n2
  · go_enter Try.func7, Try.ntmps7
    go_wp2_with (go_at_call 31; refine B31.mono ?_; rintro r w' ⟨B, rfl, rfl⟩)
    all_goals (go_ret; exact ⟨rfl, Below.refl _ _⟩)
  by_cases t3 : 16384 < n3
  · go_enter Try.func7, Try.ntmps7
    go_wp2_with (go_at_call 31; refine B31.mono ?_; rintro r w' ⟨B, rfl, rfl⟩)
    all_goals (go_ret; exact ⟨rfl, Below.refl _ _⟩)
  by_cases t4 : 16384 < n4
  · go_enter Try.func7, Try.ntmps7
    go_wp2_with (go_at_call 31; refine B31.mono ?_; rintro r w' ⟨B, rfl, rfl⟩)
    all_goals (go_ret; exact ⟨rfl, Below.refl _ _⟩)
  go_enter Try.func7, Try.ntmps7
  go_wp2_with fail
  refine B31.mono ?_
  rintro r w' ⟨B, rfl, rfl⟩
  clear B31
  cases B with
  | false =>
    go_wp2_with fail
    go_ret
    exact ⟨rfl, Below.refl _ _⟩
  | true =>
  go_wp2_with fail
  refine B24.mono ?_
  rintro r w' ⟨B, rfl, rfl, hdom⟩
  clear B24
  cases B with
  | false =>
    go_wp2_with fail
    go_ret
    exact ⟨rfl, Below.refl _ _⟩
  | true =>
  obtain ⟨rfl, rfl, rfl, rfl, hd⟩ := hdom rfl
  clear hdom
  go_wp2_with fail
  refine (cloneBools _ _ _ b _ r0 (by omega) z0).mono ?_
  rintro r w1 ⟨A0, C0, rfl, R0, hb1⟩
  go_wp2_with fail
  refine (cloneInts _ _ _ d _ (r1.below hb1) (by omega) z1).mono ?_
  rintro r w2 ⟨A1, C1, rfl, R1, hb2⟩
  go_wp2_with fail
  refine (cloneInts _ _ _ e _ ((r2.below hb1).below hb2) (by omega) z2).mono ?_
  rintro r w3 ⟨A2, C2, rfl, R2, hb3⟩
  go_wp2_with fail
  refine (cloneU8s _ _ _ s _ (((r3.below hb1).below hb2).below hb3) (by omega) z3).mono ?_
  rintro r w4 ⟨A3, C3, rfl, R3, hb4⟩
  go_wp2_with fail
  refine (cloneInts _ _ _ x _ ((((r4.below hb1).below hb2).below hb3).below hb4) (by omega) z4).mono ?_
  rintro r w5 ⟨A4, C4, rfl, R4, hb5⟩
  have bel : Below w'.heap.size w' w5 := below_step (below_step (below_step (below_step hb1 hb2) hb3) hb4) hb5
  have Q0 := (((R0.below hb2).below hb3).below hb4).below hb5
  have Q1 := ((R1.below hb3).below hb4).below hb5
  have Q2 := (R2.below hb4).below hb5
  have Q3 := R3.below hb5
  clear R0 R1 R2 R3 hb1 hb2 hb3 hb4 hb5 r0 r1 r2 r3 r4 z0 z1 z2 z3 z4
  have mk42 := run_make_row' (P := Try.prog) 42 4 (.bool false) 1 Try.underlying42 Try.info4 rfl .i64 .i64 n4 (by omega) (by omega)
  have mk28 := run_make_row' (P := Try.prog) 28 3 (.int .i64 0) 8 Try.underlying28 Try.info3 rfl .i64 .i64 n4 (by omega) (by omega)
  have mk22 := run_make_row' (P := Try.prog) 22 5 (.int .u8 0) 1 Try.underlying22 Try.info5 rfl .i64 .i64 n4 (by omega) (by omega)
  go_wp2_with fail
  clear mk42 mk28 mk22
  have AB : Aside (Below w'.heap.size w' w5) := bel
  have HD : Aside (∀ (i : Nat), i < n4 → (0 ≤ d i ∧ d i < 1073741824) ∧ (0 ≤ e i ∧ e i < 1073741824) ∧ 0 ≤ x i ∧ x i < 1073741824) := hd
  clear bel hd
  go_loopg [17] n4 (fun g i wr => ∃ k : Nat, k ≤ n4 ∧ g = n4 - k ∧ i = .int .i64 k ∧ Rv w5 wr n4 k b d e s x)
  case atStart => exact ⟨0, Nat.zero_le _, rfl, rfl, rv_start w5 n4 b d e s x⟩
  case round =>
    obtain ⟨k, hk, rfl, rfl, hR⟩ := hrel
    by_cases hlt : k < n4
    · have hlz : (k : Int) < (n4 : Int) := by omega
      obtain ⟨b0, o0, rfl, G0⟩ := Q0 (by omega)
      obtain ⟨b1, o1, rfl, G1⟩ := Q1 (by omega)
      obtain ⟨b2, o2, rfl, G2⟩ := Q2 (by omega)
      obtain ⟨b3, o3, rfl, G3⟩ := Q3 (by omega)
      obtain ⟨b4, o4, rfl, G4⟩ := R4 (by omega)
      have g0 : wr.cell? ⟨b0, o0 + (n4 - 1 - k), none⟩ = some (.bool (b (n4 - 1 - k))) := cell_later hR.bel (G0 _ (by omega))
      have g1 : wr.cell? ⟨b1, o1 + (n4 - 1 - k), none⟩ = some (.int .i64 (d (n4 - 1 - k))) := cell_later hR.bel (G1 _ (by omega))
      have g2 : wr.cell? ⟨b2, o2 + (n4 - 1 - k), none⟩ = some (.int .i64 (e (n4 - 1 - k))) := cell_later hR.bel (G2 _ (by omega))
      have g3 : wr.cell? ⟨b3, o3 + (n4 - 1 - k), none⟩ = some (.int .u8 (s (n4 - 1 - k))) := cell_later hR.bel (G3 _ (by omega))
      have g4 : wr.cell? ⟨b4, o4 + (n4 - 1 - k), none⟩ = some (.int .i64 (x (n4 - 1 - k))) := cell_later hR.bel (G4 _ (by omega))
      have lt0 : b0 < w5.heap.size := World.block_lt_of_cell? _ _ (G0 k hlt)
      have lt1 : b1 < w5.heap.size := World.block_lt_of_cell? _ _ (G1 k hlt)
      have lt2 : b2 < w5.heap.size := World.block_lt_of_cell? _ _ (G2 k hlt)
      have lt3 : b3 < w5.heap.size := World.block_lt_of_cell? _ _ (G3 k hlt)
      have lt4 : b4 < w5.heap.size := World.block_lt_of_cell? _ _ (G4 k hlt)
      have p0 := hR.r0.cell hlt
      have p1 := hR.r1.cell hlt
      have p2 := hR.r2.cell hlt
      have p3 := hR.r3.cell hlt
      have p4 := hR.r4.cell hlt
      simp only [Nat.lt_irrefl, if_false] at p0 p1 p2 p3 p4
      have f0 := hR.r0.frozen k
      have f1 := hR.r1.frozen k
      have f2 := hR.r2.frozen k
      have f3 := hR.r3.frozen k
      have f4 := hR.r4.frozen k
      have A : Aside (Rv w5 wr n4 k b d e s x) := hR
      clear hR G0 G1 G2 G3 G4 Q0 Q1 Q2 Q3 R4
      go_wp2
      go_roundg (n4 - (k + 1))
      case rel =>
        go_light
        exact ⟨k + 1, by omega, rfl, by go_num, rv_step A.out⟩
      case measure => go_light; omega
    · obtain rfl : k = n4 := by omega
      have hsz := hR.size
      have hb5 := hR.bel
      have V0 := Reads.of_row (hR.r0.congr (g := fun j => .bool (b (k - 1 - j))) fun j hj => by rw [if_pos hj])
      have V1 := Reads.of_row (hR.r1.congr (g := fun j => .int .i64 (d (k - 1 - j))) fun j hj => by rw [if_pos hj])
      have V2 := Reads.of_row (hR.r2.congr (g := fun j => .int .i64 (e (k - 1 - j))) fun j hj => by rw [if_pos hj])
      have V3 := Reads.of_row (hR.r3.congr (g := fun j => .int .u8 (s (k - 1 - j))) fun j hj => by rw [if_pos hj])
      have V4 := Reads.of_row (hR.r4.congr (g := fun j => .int .i64 (x (k - 1 - j))) fun j hj => by rw [if_pos hj])
      have Q0 := Q0.below hb5
      have Q1 := Q1.below hb5
      have Q2 := Q2.below hb5
      have Q3 := Q3.below hb5
      have Q4 := R4.below hb5
      have AB1 : Aside (Below w'.heap.size w' wr) := below_step AB.out hb5
      clear hR hb5 AB R4
      go_wp2_with fail
      refine (parts28 _ _ _ _ _ _ _ _ _ _ _ b d e s x _ (by omega) Q0 Q1 Q2 Q3 Q4 HD.out).mono ?_
      rintro r w6 ⟨eb, rfl, hE, hb6⟩
      have V0 := V0.below hb6
      have V1 := V1.below hb6
      have V2 := V2.below hb6
      have V3 := V3.below hb6
      have V4 := V4.below hb6
      have bel6 := below_step AB1.out hb6
      clear hb6 AB1 Q0 Q1 Q2 Q3 Q4
      generalize hD : mx d k = D
      generalize hEc : mx e k = E
      generalize hF : mx (fun i => fst' (b i) (e i) (s i) (x i)) k = F
      generalize hL : mx (fun i => lst' (b i) (d i) (e i) (s i) (x i)) k = L
      generalize hB : al b k = B
      have ba := ((Below.refl w6.heap.size w6).alloc (Nat.le_refl _) (.cells #[.bool B, .int .i64 D, .int .i64 E, .int .i64 F, .int .i64 L, .slice (some ⟨eb, 0, none⟩) k k, .slice none 0 0] 48))
      have V0 := V0.below ba
      have V1 := V1.below ba
      have V2 := V2.below ba
      have V3 := V3.below ba
      have V4 := V4.below ba
      have hE := hE.alloc (.cells #[.bool B, .int .i64 D, .int .i64 E, .int .i64 F, .int .i64 L, .slice (some ⟨eb, 0, none⟩) k k, .slice none 0 0] 48)
      have bel6 := below_step bel6 ba
      have hT1 : (w6.alloc (.cells #[.bool B, .int .i64 D, .int .i64 E, .int .i64 F, .int .i64 L, .slice (some ⟨eb, 0, none⟩) k k, .slice none 0 0] 48)).rowIs w6.heap.size 48 7 (thCells B D E F L (.slice (some ⟨eb, 0, none⟩) k k)) := by
        refine World.rowIs_alloc w6 _ 48 _ ?_
        intro i hi
        match i, hi with
        | 0, _ | 1, _ | 2, _ | 3, _ | 4, _ | 5, _ | 6, _ => rfl
      have EQ : Aside (mx (fun i => d (k - 1 - i)) k = D ∧ mx (fun i => e (k - 1 - i)) k = E ∧ mx (fun i => fst' (b (k - 1 - i)) (e (k - 1 - i)) (s (k - 1 - i)) (x (k - 1 - i))) k = F ∧ mx (fun i => lst' (b (k - 1 - i)) (d (k - 1 - i)) (e (k - 1 - i)) (s (k - 1 - i)) (x (k - 1 - i))) k = L ∧ al (fun i => b (k - 1 - i)) k = B) :=
        ⟨(mx_rev d k).trans hD, (mx_rev e k).trans hEc, (mx_rev (fun i => fst' (b i) (e i) (s i) (x i)) k).trans hF, (mx_rev (fun i => lst' (b i) (d i) (e i) (s i) (x i)) k).trans hL, (al_rev b k).trans hB⟩
      clear hD hEc hF hL hB ba
      go_wp2_with fail
      refine (parts28 _ _ _ _ _ _ _ _ _ _ _ (fun i => b (k - 1 - i)) (fun i => d (k - 1 - i)) (fun i => e (k - 1 - i)) (fun i => s (k - 1 - i)) (fun i => x (k - 1 - i)) _ (by omega) V0 V1 V2 V3 V4 (fun i hi => HD.out _ (by omega))).mono ?_
      rintro r w7 ⟨eb2, rfl, hE2, hb7⟩
      obtain ⟨hD, hEc, hF, hL, hB⟩ := EQ.out
      rw [hD, hEc, hF, hL, hB]
      clear hD hEc hF hL hB EQ V0 V1 V2 V3 V4
      have hE := row_below hE hb7 hE.lt
      have hT1 := row_below hT1 hb7 hT1.lt
      have bel7 := below_step bel6 hb7
      have hsz7 : w6.heap.size < w7.heap.size := hT1.lt
      clear hb7 bel6
      have ba2 := ((Below.refl w7.heap.size w7).alloc (Nat.le_refl _) (.cells #[.bool B, .int .i64 D, .int .i64 E, .int .i64 F, .int .i64 L, .slice (some ⟨eb2, 0, none⟩) k k, .slice none 0 0] 48))
      have hT2 : (w7.alloc (.cells #[.bool B, .int .i64 D, .int .i64 E, .int .i64 F, .int .i64 L, .slice (some ⟨eb2, 0, none⟩) k k, .slice none 0 0] 48)).rowIs w7.heap.size 48 7 (thCells B D E F L (.slice (some ⟨eb2, 0, none⟩) k k)) := by
        refine World.rowIs_alloc w7 _ 48 _ ?_
        intro i hi
        match i, hi with
        | 0, _ | 1, _ | 2, _ | 3, _ | 4, _ | 5, _ | 6, _ => rfl
      have hE := hE.alloc (.cells #[.bool B, .int .i64 D, .int .i64 E, .int .i64 F, .int .i64 L, .slice (some ⟨eb2, 0, none⟩) k k, .slice none 0 0] 48)
      have hE2 := hE2.alloc (.cells #[.bool B, .int .i64 D, .int .i64 E, .int .i64 F, .int .i64 L, .slice (some ⟨eb2, 0, none⟩) k k, .slice none 0 0] 48)
      have hT1 := hT1.alloc (.cells #[.bool B, .int .i64 D, .int .i64 E, .int .i64 F, .int .i64 L, .slice (some ⟨eb2, 0, none⟩) k k, .slice none 0 0] 48)
      have bel7 := below_step bel7 ba2
      clear ba2
      have t0 := hT1.cell (i := 0) (by omega)
      have t1 := hT1.cell (i := 1) (by omega)
      have t2 := hT1.cell (i := 2) (by omega)
      have t3 := hT1.cell (i := 3) (by omega)
      have t4 := hT1.cell (i := 4) (by omega)
      have t5 := hT1.cell (i := 5) (by omega)
      have t6 := hT1.cell (i := 6) (by omega)
      simp only [thCells] at t0 t1 t2 t3 t4 t5 t6
      have AA : Aside (_ ∧ _ ∧ _ ∧ _ ∧ _) := ⟨hT1, hT2, hE, hE2, bel7⟩
      clear hT1 hT2 hE hE2 bel7
      go_wp2_with fail
      refine (len29 _ _ _ _ _ _ _ _ _).mono ?_
      rintro r w8 ⟨rfl, hb8⟩
      obtain ⟨hT1, hT2, hE, hE2, bel7⟩ := AA.out
      have hT1 := row_below hT1 hb8 hT1.lt
      have hT2 := row_below hT2 hb8 hT2.lt
      have hE := row_below hE hb8 hE.lt
      have hE2 := row_below hE2 hb8 hE2.lt
      have bel8 := below_step bel7 hb8
      clear AA t0 t1 t2 t3 t4 t5 t6 bel7 hb8
      have t0 := hT2.cell (i := 0) (by omega)
      have t1 := hT2.cell (i := 1) (by omega)
      have t2 := hT2.cell (i := 2) (by omega)
      have t3 := hT2.cell (i := 3) (by omega)
      have t4 := hT2.cell (i := 4) (by omega)
      have t5 := hT2.cell (i := 5) (by omega)
      have t6 := hT2.cell (i := 6) (by omega)
      simp only [thCells] at t0 t1 t2 t3 t4 t5 t6
      have AA : Aside (_ ∧ _ ∧ _ ∧ _ ∧ _) := ⟨hT1, hT2, hE, hE2, bel8⟩
      clear hT1 hT2 hE hE2 bel8
      go_wp2_with fail
      refine (len29 _ _ _ _ _ _ _ _ _).mono ?_
      rintro r w9 ⟨rfl, hb9⟩
      obtain ⟨hT1, hT2, hE, hE2, bel7⟩ := AA.out
      have hT1 := row_below hT1 hb9 hT1.lt
      have hT2 := row_below hT2 hb9 hT2.lt
      have hE := row_below hE hb9 hE.lt
      have hE2 := row_below hE2 hb9 hE2.lt
      have bel9 := below_step bel7 hb9
      clear AA t0 t1 t2 t3 t4 t5 t6 bel7 hb9
      go_wp2_with fail
      have AA : Aside (_ ∧ _ ∧ _ ∧ _ ∧ _) := ⟨hT1, hT2, hE, hE2, bel9⟩
      clear hT1 hT2 hE hE2 bel9
      go_loopg [20] k (fun g i wx => ∃ m : Nat, m ≤ k ∧ g = k - m ∧ i = .int .i64 m ∧ Below w9.heap.size w9 wx)
      case atStart => exact ⟨0, Nat.zero_le _, rfl, rfl, Below.refl _ _⟩
      case round =>
        obtain ⟨m, hm, rfl, rfl, hbx⟩ := hrel
        obtain ⟨wx, rfl⟩ : ∃ wx : World, wx = wr := ⟨_, rfl⟩
        by_cases hlt : m < k
        · have hlz : (m : Int) < (k : Int) := by omega
          have h0z : (0 : Int) ≤ (m : Int) := by omega
          obtain ⟨hT1, hT2, hE, hE2, bel9⟩ := AA.out
          have hT1 := row_below hT1 hbx hT1.lt
          have hE := row_below hE hbx hE.lt
          have t0 := hT1.cell (i := 0) (by omega)
          have t1 := hT1.cell (i := 1) (by omega)
          have t2 := hT1.cell (i := 2) (by omega)
          have t3 := hT1.cell (i := 3) (by omega)
          have t4 := hT1.cell (i := 4) (by omega)
          have t5 := hT1.cell (i := 5) (by omega)
          have t6 := hT1.cell (i := 6) (by omega)
          simp only [thCells] at t0 t1 t2 t3 t4 t5 t6
          clear hT1 bel9
          obtain ⟨f1, hf1⟩ : ∃ f1, fst' (b m) (e m) (s m) (x m) = f1 := ⟨_, rfl⟩
          obtain ⟨l1, hl1⟩ : ∃ l1, lst' (b m) (d m) (e m) (s m) (x m) = l1 := ⟨_, rfl⟩
          go_wp2_with fail
          refine (at30' _ _ _ _ _ _ _ _ b d e s x _ hlt (by omega) hE f1 l1 hf1 hl1).mono ?_
          rintro r w10 ⟨rfl, hb10⟩
          have hb10 := below_step hbx hb10
          have hT2 := row_below hT2 hb10 hT2.lt
          have hE2 := row_below hE2 hb10 hE2.lt
          clear t0 t1 t2 t3 t4 t5 t6 hbx hE
          have t0 := hT2.cell (i := 0) (by omega)
          have t1 := hT2.cell (i := 1) (by omega)
          have t2 := hT2.cell (i := 2) (by omega)
          have t3 := hT2.cell (i := 3) (by omega)
          have t4 := hT2.cell (i := 4) (by omega)
          have t5 := hT2.cell (i := 5) (by omega)
          have t6 := hT2.cell (i := 6) (by omega)
          simp only [thCells] at t0 t1 t2 t3 t4 t5 t6
          clear hT2
          go_wp2_with fail
          have ec : (k : Int) - 1 - (m : Int) = ((k - 1 - m : Nat) : Int) := by omega
          rw [ec]
          clear ec
          refine (at30' _ _ _ _ _ _ _ _ (fun i => b (k - 1 - i)) (fun i => d (k - 1 - i)) (fun i => e (k - 1 - i)) (fun i => s (k - 1 - i)) (fun i => x (k - 1 - i)) _ (by omega) (by omega) hE2 f1 l1 (by simp only [show k - 1 - (k - 1 - m) = m by omega]; exact hf1) (by simp only [show k - 1 - (k - 1 - m) = m by omega]; exact hl1)).mono ?_
          rintro r w11 ⟨rfl, hb11⟩
          have hb11 := below_step hb10 hb11
          clear hf1 hl1 hE2 hb10 t0 t1 t2 t3 t4 t5 t6
          go_wp2
          go_roundg (k - (m + 1))
          case rel =>
            go_light
            exact ⟨m + 1, by omega, rfl, by go_num, hb11⟩
          case measure => go_light; omega
        · obtain rfl : m = k := by omega
          have bel := below_step AA.out.2.2.2.2 hbx
          clear AA hbx
          go_wp2
          go_ret
          exact ⟨rfl, bel⟩
end Go.Proofs.Qxb6600487a
