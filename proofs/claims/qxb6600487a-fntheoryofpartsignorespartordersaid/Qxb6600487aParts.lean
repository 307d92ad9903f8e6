import Derived.Test.Qxb6600487aTheory
namespace Go.Proofs.Qxb6600487a
open Go.RowKit
set_option linter.unusedVariables false

structure Pt (w wr : World) (n k : Nat) (b : Nat → Bool) (d e s x : Nat → Int) : Prop where
  bel : Below w.heap.size w wr
  size : w.heap.size + 1 < wr.heap.size
  res : wr.rowIs w.heap.size 48 7 (thCells false 0 0 0 0 (.slice none 0 0))
  parts : wr.rowIs (w.heap.size + 1) 61 (n * 7) (fun j => if j < k * 7 then ptCells (b (j / 7)) (d (j / 7)) (e (j / 7)) (s (j / 7)) (x (j / 7)) (j % 7) else ptCells false 0 0 0 0 (j % 7))

theorem pt_start (w : World) (n : Nat) (b : Nat → Bool) (d e s x : Nat → Int) :
    Pt w ((w.alloc (.cells #[.bool false, .int .i64 0, .int .i64 0, .int .i64 0, .int .i64 0, .slice none 0 0, .slice none 0 0] 48)).alloc (.cells (madeCells #[.bool false, .int .i64 0, .int .i64 0, .int .i64 0, .int .u8 0, .int .i64 0, .slice none 0 0] (n * 7)) 61)) n 0 b d e s x := by
  refine ⟨((Below.refl _ _).alloc (Nat.le_refl _) _).alloc (by simp) _, by simp, ?_, ?_⟩
  · refine (World.rowIs_alloc w _ 48 _ ?_).alloc _
    intro i hi
    match i, hi with
    | 0, _ | 1, _ | 2, _ | 3, _ | 4, _ | 5, _ | 6, _ => rfl
  · have h1 : (w.alloc (.cells #[.bool false, .int .i64 0, .int .i64 0, .int .i64 0, .int .i64 0, .slice none 0 0, .slice none 0 0] 48)).heap.size = w.heap.size + 1 := by simp
    rw [← h1]
    refine ⟨_, Go.Deep.blk_alloc_new _ _, size_madeCells _ _, fun i hi => ?_⟩
    simp only [madeCells, Nat.zero_mul, Nat.not_lt_zero, if_false]
    rw [Array.getElem?_map, Array.getElem?_range]
    simp only [hi, if_true, Option.map_some]
    have h7 : i % 7 < 7 := Nat.mod_lt _ (by omega)
    show some ((#[Value.bool false, .int .i64 0, .int .i64 0, .int .i64 0, .int .u8 0, .int .i64 0, .slice none 0 0] : Array Value)[i % 7]!) = _
    generalize i % 7 = m at h7
    match m, h7 with
    | 0, _ | 1, _ | 2, _ | 3, _ | 4, _ | 5, _ | 6, _ => rfl

theorem pt_step {w wr : World} {n k : Nat} {b : Nat → Bool} {d e s x : Nat → Int} (h : Pt w wr n k b d e s x) :
    Pt w (((((((wr.setCell ⟨w.heap.size + 1, k * 7, none⟩ (.bool (b k))).setCell ⟨w.heap.size + 1, k * 7 + 1, none⟩ (.int .i64 (d k))).setCell ⟨w.heap.size + 1, k * 7 + 2, none⟩ (.int .i64 (d k))).setCell
      ⟨w.heap.size + 1, k * 7 + 3, none⟩ (.int .i64 (e k))).setCell ⟨w.heap.size + 1, k * 7 + 4, none⟩ (.int .u8 (s k))).setCell ⟨w.heap.size + 1, k * 7 + 5, none⟩ (.int .i64 (x k))).setCell ⟨w.heap.size + 1, k * 7 + 6, none⟩ (.slice none 0 0)).drew n (k + 1) b d e s x := by
  refine ⟨?_, by simpa using h.size, ?_, ?_⟩
  · refine Below.drew ?_
    iterate 7 refine Below.setCell ?_ (by simp) _
    exact h.bel
  · refine World.rowIs.drew ?_
    iterate 7 refine World.rowIs.setOther ?_ (by simp) _
    exact h.res
  · refine World.rowIs.drew ?_
    refine (((((((h.parts.set _ _).set _ _).set _ _).set _ _).set _ _).set _ _).set _ _).congr fun j hj => ?_
    by_cases e1 : j < k * 7
    · rw [if_neg (by omega), if_neg (by omega), if_neg (by omega), if_neg (by omega), if_neg (by omega), if_neg (by omega), if_neg (by omega), if_pos e1, if_pos (by omega)]
    · by_cases e2 : j < (k + 1) * 7
      · rw [if_pos e2]
        obtain ⟨m, hm, rfl⟩ : ∃ m, m < 7 ∧ j = k * 7 + m := ⟨j - k * 7, by omega, by omega⟩
        rw [show (k * 7 + m) / 7 = k by omega, show (k * 7 + m) % 7 = m by omega]
        match m, hm with
        | 0, _ | 1, _ | 2, _ | 3, _ | 4, _ | 5, _ | 6, _ => simp [ptCells]
      · rw [if_neg e2, if_neg (by omega), if_neg (by omega), if_neg (by omega), if_neg (by omega), if_neg (by omega), if_neg (by omega), if_neg (by omega), if_neg e1]

set_option maxHeartbeats 2000000 in
theorem parts28 (a0 a1 a2 a3 a4 : Option Addr) (n c0 c1 c2 c3 c4 : Nat) (b : Nat → Bool) (d e s x : Nat → Int) (w : World) (hn : n ≤ 16384)
    (r0 : Reads w a0 n (fun i => .bool (b i))) (r1 : Reads w a1 n (fun i => .int .i64 (d i))) (r2 : Reads w a2 n (fun i => .int .i64 (e i))) (r3 : Reads w a3 n (fun i => .int .u8 (s i))) (r4 : Reads w a4 n (fun i => .int .i64 (x i)))
    (hd : ∀ i, i < n → (0 ≤ d i ∧ d i < 1073741824) ∧ (0 ≤ e i ∧ e i < 1073741824) ∧ (0 ≤ x i ∧ x i < 1073741824)) :
    Calls Try.prog 28 #[.slice a0 n c0, .slice a1 n c1, .slice a2 n c2, .slice a3 n c3, .slice a4 n c4] w fun r w' => ThPost w n b d e s x r w' := by
  have hmk := run_make_rows (P := Try.prog) 59 61 (.agg #[.bool false, .int .i64 0, .int .i64 0, .int .i64 0, .int .u8 0, .int .i64 0, .slice none 0 0]) 7 72 Try.underlying59 Try.info61 .i64 .i64 n (by omega) (by omega)
  simp only [Value.cells] at hmk
  go_enter Try.func28, Try.ntmps28
  go_wp2
  clear hmk
  go_loopg [12] n (fun g i wr => ∃ k : Nat, k ≤ n ∧ g = n - k ∧ i = .int .i64 k ∧ Pt w wr n k b d e s x)
  case atStart => exact ⟨0, Nat.zero_le _, rfl, rfl, pt_start w n b d e s x⟩
  case round =>
    obtain ⟨k, hk, rfl, rfl, hT⟩ := hrel
    by_cases hlt : k < n
    · have hlz : (k : Int) < (n : Int) := by omega
      have h0z : (0 : Int) ≤ (k : Int) := by omega
      obtain ⟨b0, o0, rfl, G0⟩ := r0 (by omega)
      obtain ⟨b1, o1, rfl, G1⟩ := r1 (by omega)
      obtain ⟨b2, o2, rfl, G2⟩ := r2 (by omega)
      obtain ⟨b3, o3, rfl, G3⟩ := r3 (by omega)
      obtain ⟨b4, o4, rfl, G4⟩ := r4 (by omega)
      have g0 : wr.cell? ⟨b0, o0 + k, none⟩ = some (.bool (b k)) := cell_later hT.bel (G0 k hlt)
      have g1 : wr.cell? ⟨b1, o1 + k, none⟩ = some (.int .i64 (d k)) := cell_later hT.bel (G1 k hlt)
      have g2 : wr.cell? ⟨b2, o2 + k, none⟩ = some (.int .i64 (e k)) := cell_later hT.bel (G2 k hlt)
      have g3 : wr.cell? ⟨b3, o3 + k, none⟩ = some (.int .u8 (s k)) := cell_later hT.bel (G3 k hlt)
      have g4 : wr.cell? ⟨b4, o4 + k, none⟩ = some (.int .i64 (x k)) := cell_later hT.bel (G4 k hlt)
      have pc : ∀ j, j < 7 → wr.cell? ⟨w.heap.size + 1, k * 7 + j, none⟩ = some (ptCells false 0 0 0 0 j) := by
        intro j hj
        have := hT.parts.cell (i := k * 7 + j) (by omega)
        rw [if_neg (by omega), show (k * 7 + j) % 7 = j by omega] at this
        exact this
      have p0 := pc 0 (by omega)
      have p1 := pc 1 (by omega)
      have p2 := pc 2 (by omega)
      have p3 := pc 3 (by omega)
      have p4 := pc 4 (by omega)
      have p5 := pc 5 (by omega)
      have p6 := pc 6 (by omega)
      have f0 := hT.parts.frozen (k * 7)
      have f1 := hT.parts.frozen (k * 7 + 1)
      have f2 := hT.parts.frozen (k * 7 + 2)
      have f3 := hT.parts.frozen (k * 7 + 3)
      have f4 := hT.parts.frozen (k * 7 + 4)
      have f5 := hT.parts.frozen (k * 7 + 5)
      have f6 := hT.parts.frozen (k * 7 + 6)
      simp only [ptCells, Nat.add_zero] at p0 p1 p2 p3 p4 p5 p6
      have A : Aside (Pt w wr n k b d e s x) := hT
      clear hT G0 G1 G2 G3 G4 r0 r1 r2 r3 r4 pc hd
      go_wp2
      go_region
      go_wp2
      go_roundg (n - (k + 1))
      case rel =>
        go_light
        exact ⟨k + 1, by omega, rfl, by go_num, pt_step A.out⟩
      case measure => go_light; omega
    · obtain rfl : k = n := by omega
      have hP : wr.rowIs (w.heap.size + 1) 61 (k * 7) (fun j => ptCells (b (j / 7)) (d (j / 7)) (e (j / 7)) (s (j / 7)) (x (j / 7)) (j % 7)) := hT.parts.congr fun j hj => by rw [if_pos hj]
      have A : Aside (Pt w wr k k b d e s x ∧ wr.rowIs (w.heap.size + 1) 61 (k * 7) (fun j => ptCells (b (j / 7)) (d (j / 7)) (e (j / 7)) (s (j / 7)) (x (j / 7)) (j % 7)) ∧ (∀ i, i < k → (0 ≤ d i ∧ d i < 1073741824) ∧ (0 ≤ e i ∧ e i < 1073741824) ∧ (0 ≤ x i ∧ x i < 1073741824))) := ⟨hT, hP, hd⟩
      clear hT hP hd r0 r1 r2 r3 r4
      go_wp2_with fail
      refine (th35 _ k b d e s x wr hn A.out.2.1 A.out.2.2).mono ?_
      rintro r w1 ⟨eb, rfl, hE, hb1⟩
      have hsz := A.out.1.size
      have hR := row_below A.out.1.res hb1 (by omega)
      have r0 := hR.cell (i := 0) (by omega)
      have r1 := hR.cell (i := 1) (by omega)
      have r2 := hR.cell (i := 2) (by omega)
      have r3 := hR.cell (i := 3) (by omega)
      have r4 := hR.cell (i := 4) (by omega)
      have r5 := hR.cell (i := 5) (by omega)
      have r6 := hR.cell (i := 6) (by omega)
      have u0 := hR.frozen 0
      have u1 := hR.frozen 1
      have u2 := hR.frozen 2
      have u3 := hR.frozen 3
      have u4 := hR.frozen 4
      have u5 := hR.frozen 5
      have u6 := hR.frozen 6
      simp only [thCells] at r0 r1 r2 r3 r4 r5 r6
      have A1 : Aside (Pt w wr k k b d e s x ∧ w1.rowIs eb 64 (k * 2) (endCells b d e s x) ∧ Below wr.heap.size wr w1) := ⟨A.out.1, hE, hb1⟩
      have hne : eb ≠ w.heap.size := by
        intro e
        subst e
        obtain ⟨c, h1, _⟩ := hE
        obtain ⟨c', h2, _⟩ := hR
        rw [h1] at h2
        simp at h2
      clear hE hb1 hR A
      go_wp2
      refine bodyPost_ret (v := .agg #[.bool (al b k), .int .i64 (mx d k), .int .i64 (mx e k), .int .i64 (mx (fun i => fst' (b i) (e i) (s i) (x i)) k), .int .i64 (mx (fun i => lst' (b i) (d i) (e i) (s i) (x i)) k), .slice (some ⟨eb, 0, none⟩) k k, .slice none 0 0]) (by simp [results, Try.results28, go_sem, *]) rfl ?_
      obtain ⟨h, hE, hb1⟩ := A1.out
      refine ⟨_, rfl, ?_, ?_⟩
      · iterate 7 refine World.rowIs.setOther ?_ hne _
        exact hE
      · iterate 7 refine Below.setCell ?_ (by simp) _
        exact h.bel.trans (hb1.mono (by omega))
end Go.Proofs.Qxb6600487a
