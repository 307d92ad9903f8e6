import Derived.Test.Qxb6600487aLeaf
namespace Go.Proofs.Qxb6600487a
open Go.RowKit
set_option linter.unusedVariables false

def mx (f : Nat → Int) : Nat → Int
  | 0 => 0
  | k + 1 => max (mx f k) (f k)
def al (f : Nat → Bool) : Nat → Bool
  | 0 => true
  | k + 1 => al f k && f k

/-- the seven cells of a Theory -/
def thCells (B : Bool) (D E F L : Int) (ends : Value) : Nat → Value
  | 0 => .bool B
  | 1 => .int .i64 D
  | 2 => .int .i64 E
  | 3 => .int .i64 F
  | 4 => .int .i64 L
  | 5 => ends
  | _ => .slice none 0 0

/-- one part's seven cells -/
def ptCells (b : Bool) (d e s x : Int) : Nat → Value
  | 0 => .bool b
  | 1 => .int .i64 d
  | 2 => .int .i64 d
  | 3 => .int .i64 e
  | 4 => .int .u8 s
  | 5 => .int .i64 x
  | _ => .slice none 0 0

theorem Try.info64 : (Try.prog.info? 64).map (fun i => (i.zero, i.size, i.bytes)) = some (some (.agg #[.int .i64 0, .int .i64 0]), 2, 16) := by kernel_rfl
theorem Try.info61 : (Try.prog.info? 61).map (fun i => (i.zero, i.size, i.bytes)) = some (some (.agg #[.bool false, .int .i64 0, .int .i64 0, .int .i64 0, .int .u8 0, .int .i64 0, .slice none 0 0]), 7, 72) := by kernel_rfl

/-- 'make([]T, n)', T of several cells. -/
theorem run_make_rows {P : Program} (t e : TypeId) (z : Value) (size bytes : Nat) (ht : P.underlying t = some (.slice e)) (hinfo : (P.info? e).map (fun i => (i.zero, i.size, i.bytes)) = some (some z, size, bytes))
    (kl kc : IntKind) (n : Nat) (hbytes : bytes * n ≤ 281474976710656) (h63 : n ≤ 9223372036854775807) (w : World) :
    (Instr.makeSlice t (.int kl (n : Int)) (.int kc (n : Int))).run P w = .ok (.slice (some ⟨w.heap.size, 0, none⟩) n n) (w.alloc (.cells (madeCells z.cells (n * size)) e)) := by
  obtain ⟨i, hi, hzz⟩ := Option.map_eq_some_iff.1 hinfo
  simp only [Prod.mk.injEq] at hzz
  obtain ⟨hz, rfl, rfl⟩ := hzz
  have hb' : (i.bytes : Int) * (n : Int) ≤ 281474976710656 := by
    have h : ((i.bytes * n : Nat) : Int) ≤ 281474976710656 := by omega
    rwa [Int.natCast_mul] at h
  have hr := run_make (P := P) w t e i z ht hi hz kl kc n n (by omega) (Int.le_refl _) hb' (by omega)
  simpa only [Int.toNat_natCast] using hr

def endCells (b : Nat → Bool) (d e s x : Nat → Int) (j : Nat) : Value :=
  .int .i64 (if j % 2 = 0 then fst' (b (j / 2)) (e (j / 2)) (s (j / 2)) (x (j / 2)) else lst' (b (j / 2)) (d (j / 2)) (e (j / 2)) (s (j / 2)) (x (j / 2)))

def ThPost (w : World) (n : Nat) (b : Nat → Bool) (d e s x : Nat → Int) (r : Ending) (w' : World) : Prop :=
  ∃ eb, r = .returned (.agg #[.bool (al b n), .int .i64 (mx d n), .int .i64 (mx e n), .int .i64 (mx (fun i => fst' (b i) (e i) (s i) (x i)) n), .int .i64 (mx (fun i => lst' (b i) (d i) (e i) (s i) (x i)) n), .slice (some ⟨eb, 0, none⟩) n n, .slice none 0 0]) ∧
    w'.rowIs eb 64 (n * 2) (endCells b d e s x) ∧ Below w.heap.size w w'

structure Th (w wr : World) (n k : Nat) (b : Nat → Bool) (d e s x : Nat → Int) : Prop where
  bel : Below w.heap.size w wr
  size : w.heap.size + 2 < wr.heap.size
  res : wr.rowIs w.heap.size 48 7 (thCells false 0 0 0 0 (.slice none 0 0))
  ends : wr.rowIs (w.heap.size + 1) 64 (n * 2) (fun j => if j < k * 2 then .int .i64 (if j % 2 = 0 then fst' (b (j / 2)) (e (j / 2)) (s (j / 2)) (x (j / 2)) else lst' (b (j / 2)) (d (j / 2)) (e (j / 2)) (s (j / 2)) (x (j / 2))) else .int .i64 0)
  th : wr.rowIs (w.heap.size + 2) 48 7 (thCells (al b k) (mx d k) (mx e k) (mx (fun i => fst' (b i) (e i) (s i) (x i)) k) (mx (fun i => lst' (b i) (d i) (e i) (s i) (x i)) k) (.slice (some ⟨w.heap.size + 1, 0, none⟩) n n))

theorem row_below {w w' : World} {B b : Nat} {t : TypeId} {n : Nat} {f : Nat → Value} (h : w.rowIs b t n f) (hb : Below B w w') (hB : b < B) : w'.rowIs b t n f := h.of_block (hb.block b hB)

theorem Th.later {w wr w1 : World} {n k : Nat} {b : Nat → Bool} {d e s x : Nat → Int} (h : Th w wr n k b d e s x) (hb : Below wr.heap.size wr w1) : Th w w1 n k b d e s x :=
  have := h.size
  have := hb.size
  ⟨h.bel.trans (hb.mono (by omega)), by omega, row_below h.res hb (by omega), row_below h.ends hb (by omega), row_below h.th hb (by omega)⟩

theorem th_start (w : World) (n : Nat) (b : Nat → Bool) (d e s x : Nat → Int) :
    Th w (((w.alloc (.cells #[.bool false, .int .i64 0, .int .i64 0, .int .i64 0, .int .i64 0, .slice none 0 0, .slice none 0 0] 48)).alloc (.cells (madeCells #[.int .i64 0, .int .i64 0] (n * 2)) 64)).alloc
      (.cells #[.bool true, .int .i64 0, .int .i64 0, .int .i64 0, .int .i64 0, .slice (some ⟨w.heap.size + 1, 0, none⟩) n n, .slice none 0 0] 48)) n 0 b d e s x := by
  refine ⟨(((Below.refl _ _).alloc (Nat.le_refl _) _).alloc (by simp) _).alloc (by simp; omega) _, by simp, ?_, ?_, ?_⟩
  · refine ((World.rowIs_alloc w _ 48 _ ?_).alloc _).alloc _
    intro i hi
    match i, hi with
    | 0, _ | 1, _ | 2, _ | 3, _ | 4, _ | 5, _ | 6, _ => rfl
  · have h1 : (w.alloc (.cells #[.bool false, .int .i64 0, .int .i64 0, .int .i64 0, .int .i64 0, .slice none 0 0, .slice none 0 0] 48)).heap.size = w.heap.size + 1 := by simp
    refine World.rowIs.alloc ?_ _
    rw [← h1]
    refine ⟨_, Go.Deep.blk_alloc_new _ _, size_madeCells _ _, fun i hi => ?_⟩
    simp only [madeCells, Nat.zero_mul, Nat.not_lt_zero, if_false]
    rw [Array.getElem?_map, Array.getElem?_range]
    simp only [hi, if_true, Option.map_some]
    rcases Nat.mod_two_eq_zero_or_one i with h | h <;> simp [h]
  · have h2 : ((w.alloc (.cells #[.bool false, .int .i64 0, .int .i64 0, .int .i64 0, .int .i64 0, .slice none 0 0, .slice none 0 0] 48)).alloc (.cells (madeCells #[.int .i64 0, .int .i64 0] (n * 2)) 64)).heap.size = w.heap.size + 2 := by simp
    rw [← h2]
    refine World.rowIs_alloc _ _ 48 _ ?_
    intro i hi
    match i, hi with
    | 0, _ | 1, _ | 2, _ | 3, _ | 4, _ | 5, _ | 6, _ => rfl

theorem th_step {w w1 : World} {n k : Nat} {b : Nat → Bool} {d e s x : Nat → Int} (h : Th w w1 n k b d e s x) (B1 : Bool) (D1 E1 F1 L1 f1 l1 : Int)
    (hf : f1 = fst' (b k) (e k) (s k) (x k)) (hl : l1 = lst' (b k) (d k) (e k) (s k) (x k)) (hB : B1 = (al b k && b k)) (hD : D1 = max (mx d k) (d k)) (hE : E1 = max (mx e k) (e k))
    (hF : F1 = max (mx (fun i => fst' (b i) (e i) (s i) (x i)) k) f1) (hL : L1 = max (mx (fun i => lst' (b i) (d i) (e i) (s i) (x i)) k) l1) :
    Th w (((((((w1.setCell ⟨w.heap.size + 1, k * 2, none⟩ (.int .i64 f1)).setCell ⟨w.heap.size + 1, k * 2 + 1, none⟩ (.int .i64 l1)).setCell ⟨w.heap.size + 1 + 1, 0, none⟩ (.bool B1)).setCell
      ⟨w.heap.size + 1 + 1, 1, none⟩ (.int .i64 D1)).setCell ⟨w.heap.size + 1 + 1, 2, none⟩ (.int .i64 E1)).setCell ⟨w.heap.size + 1 + 1, 3, none⟩ (.int .i64 F1)).setCell ⟨w.heap.size + 1 + 1, 4, none⟩ (.int .i64 L1)) n (k + 1) b d e s x := by
  subst hf; subst hl; subst hB; subst hD; subst hE; subst hF; subst hL
  refine ⟨((((((h.bel.setCell (by simp) _).setCell (by simp) _).setCell (by simp; omega) _).setCell (by simp; omega) _).setCell (by simp; omega) _).setCell (by simp; omega) _).setCell (by simp; omega) _,
    by simpa using h.size, ?_, ?_, ?_⟩
  · exact ((((((h.res.setOther (by simp) _).setOther (by simp) _).setOther (by simp; omega) _).setOther (by simp; omega) _).setOther (by simp; omega) _).setOther (by simp; omega) _).setOther (by simp; omega) _
  · refine (((((((h.ends.set _ _).set _ _).setOther (by simp) _).setOther (by simp) _).setOther (by simp) _).setOther (by simp) _).setOther (by simp) _).congr fun j hj => ?_
    by_cases e1 : j = k * 2 + 1
    · subst e1
      rw [if_pos rfl, if_pos (by omega), if_neg (by omega), show (k * 2 + 1) / 2 = k by omega]
    · rw [if_neg e1]
      by_cases e2 : j = k * 2
      · subst e2
        rw [if_pos rfl, if_pos (by omega), if_pos (by omega), show (k * 2) / 2 = k by omega]
      · rw [if_neg e2]
        by_cases e3 : j < k * 2
        · rw [if_pos e3, if_pos (show j < (k + 1) * 2 by omega)]
        · rw [if_neg e3, if_neg (show ¬ j < (k + 1) * 2 by omega)]
  · have h2 := h.th
    rw [show w.heap.size + 2 = w.heap.size + 1 + 1 from rfl] at h2
    refine (((((((h2.setOther (by simp) _).setOther (by simp) _).set 0 _).set 1 _).set 2 _).set 3 _).set 4 _).congr fun j hj => ?_
    match j, hj with
    | 0, _ | 1, _ | 2, _ | 3, _ | 4, _ | 5, _ | 6, _ => rfl

theorem mx_nonneg (f : Nat → Int) (k : Nat) : 0 ≤ mx f k := by
  induction k with
  | zero => simp [mx]
  | succ k ih => simp only [mx]; omega

set_option maxHeartbeats 2000000 in
theorem th35 (pb n : Nat) (b : Nat → Bool) (d e s x : Nat → Int) (w : World) (hn : n ≤ 16384) (hp : w.rowIs pb 61 (n * 7) (fun j => ptCells (b (j / 7)) (d (j / 7)) (e (j / 7)) (s (j / 7)) (x (j / 7)) (j % 7)))
    (hd : ∀ i, i < n → (0 ≤ d i ∧ d i < 1073741824) ∧ (0 ≤ e i ∧ e i < 1073741824) ∧ (0 ≤ x i ∧ x i < 1073741824)) :
    Calls Try.prog 35 #[.slice (some ⟨pb, 0, none⟩) n n, .slice none 0 0] w fun r w' => ThPost w n b d e s x r w' := by
  have hmk := run_make_rows (P := Try.prog) 46 64 (.agg #[.int .i64 0, .int .i64 0]) 2 16 Try.underlying46 Try.info64 .i64 .i64 n (by omega) (by omega)
  simp only [Value.cells] at hmk
  go_enter Try.func35, Try.ntmps35
  go_wp2
  clear hmk
  go_loopg [17] n (fun g i wr => ∃ k : Nat, k ≤ n ∧ g = n - k ∧ i = .int .i64 k ∧ Th w wr n k b d e s x)
  case atStart => exact ⟨0, Nat.zero_le _, rfl, rfl, th_start w n b d e s x⟩
  case round =>
    obtain ⟨k, hk, rfl, rfl, hT⟩ := hrel
    by_cases hlt : k < n
    · have hlz : (k : Int) < (n : Int) := by omega
      have hc : ∀ j, j < 7 → wr.cell? ⟨pb, k * 7 + j, none⟩ = some (ptCells (b k) (d k) (e k) (s k) (x k) j) := by
        intro j hj
        have := cell_later hT.bel (hp.cell (i := k * 7 + j) (by omega))
        rw [show (k * 7 + j) / 7 = k by omega, show (k * 7 + j) % 7 = j by omega] at this
        exact this
      have c0 := hc 0 (by omega)
      have c1 := hc 1 (by omega)
      have c2 := hc 2 (by omega)
      have c3 := hc 3 (by omega)
      have c4 := hc 4 (by omega)
      have c5 := hc 5 (by omega)
      have c6 := hc 6 (by omega)
      simp only [ptCells, Nat.add_zero] at c0 c1 c2 c3 c4 c5 c6
      obtain ⟨⟨d0, d1⟩, ⟨e0, e1⟩, ⟨x0, x1⟩⟩ := hd k hlt
      have A : Aside (Th w wr n k b d e s x) := hT
      have hsz := hT.size
      clear hc hT hd hp
      go_wp2_with fail
      refine (ends39 _ _ _ _ _ _ _ d0 d1 e0 e1).mono ?_
      rintro r w1 ⟨rfl, hb1⟩
      have hT1 := A.out.later (((Below.refl _ _).alloc (Nat.le_refl _) _).trans (hb1.mono (by simp)))
      have hP : w1.rowIs wr.heap.size 61 7 (ptCells (b k) (d k) (e k) (s k) (x k)) := by
        refine row_below (World.rowIs_alloc wr _ 61 _ ?_) hb1 (by simp)
        intro i hi
        match i, hi with
        | 0, _ | 1, _ | 2, _ | 3, _ | 4, _ | 5, _ | 6, _ => rfl
      have t0 := hT1.th.cell (i := 0) (by omega)
      have t1 := hT1.th.cell (i := 1) (by omega)
      have t2 := hT1.th.cell (i := 2) (by omega)
      have t3 := hT1.th.cell (i := 3) (by omega)
      have t4 := hT1.th.cell (i := 4) (by omega)
      have t5 := hT1.th.cell (i := 5) (by omega)
      have p0 := hP.cell (i := 0) (by omega)
      have p1 := hP.cell (i := 1) (by omega)
      have p3 := hP.cell (i := 3) (by omega)
      have u0 := hT1.th.frozen 0
      have u1 := hT1.th.frozen 1
      have u2 := hT1.th.frozen 2
      have u3 := hT1.th.frozen 3
      have u4 := hT1.th.frozen 4
      have v0 := hT1.ends.frozen (k * 2)
      have v1 := hT1.ends.frozen (k * 2 + 1)
      have y0 := hT1.ends.cell (i := k * 2) (by omega)
      have y1 := hT1.ends.cell (i := k * 2 + 1) (by omega)
      rw [if_neg (by omega)] at y0 y1
      simp only [thCells, ptCells] at t0 t1 t2 t3 t4 t5 p0 p1 p3
      have A1 : Aside (Th w w1 n k b d e s x) := hT1
      clear hT1 hP A hb1 c0 c1 c2 c3 c4 c5 c6
      generalize hB : al b k = B0 at t0
      generalize hD : mx d k = D0 at t1
      generalize hE : mx e k = E0 at t2
      generalize hF : mx (fun i => fst' (b i) (e i) (s i) (x i)) k = F0 at t3
      generalize hL : mx (fun i => lst' (b i) (d i) (e i) (s i) (x i)) k = L0 at t4
      generalize hf : fst' (b k) (e k) (s k) (x k) = f1
      generalize hl : lst' (b k) (d k) (e k) (s k) (x k) = l1
      have E : Aside (al b k = B0 ∧ mx d k = D0 ∧ mx e k = E0 ∧ mx (fun i => fst' (b i) (e i) (s i) (x i)) k = F0 ∧ mx (fun i => lst' (b i) (d i) (e i) (s i) (x i)) k = L0 ∧ fst' (b k) (e k) (s k) (x k) = f1 ∧ lst' (b k) (d k) (e k) (s k) (x k) = l1) := ⟨hB, hD, hE, hF, hL, hf, hl⟩
      clear hB hD hE hF hL hf hl
      go_wp2
      all_goals
        go_roundg (n - (k + 1))
        case rel =>
          go_light
          obtain ⟨hB, hD, hE, hF, hL, hf, hl⟩ := E.out
          refine ⟨k + 1, by omega, rfl, by go_num, th_step A1.out _ _ _ _ _ _ _ hf.symm hl.symm ?_ ?_ ?_ ?_ ?_⟩
          · rw [hB]; simp [*]
          · rw [hD]; omega
          · rw [hE]; omega
          · rw [hF]; omega
          · rw [hL]; omega
        case measure => go_light; omega
    · obtain rfl : k = n := by omega
      have t0 := hT.th.cell (i := 0) (by omega)
      have t1 := hT.th.cell (i := 1) (by omega)
      have t2 := hT.th.cell (i := 2) (by omega)
      have t3 := hT.th.cell (i := 3) (by omega)
      have t4 := hT.th.cell (i := 4) (by omega)
      have t5 := hT.th.cell (i := 5) (by omega)
      have t6 := hT.th.cell (i := 6) (by omega)
      have r0 := hT.res.cell (i := 0) (by omega)
      have r1 := hT.res.cell (i := 1) (by omega)
      have r2 := hT.res.cell (i := 2) (by omega)
      have r3 := hT.res.cell (i := 3) (by omega)
      have r4 := hT.res.cell (i := 4) (by omega)
      have r5 := hT.res.cell (i := 5) (by omega)
      have r6 := hT.res.cell (i := 6) (by omega)
      have u0 := hT.res.frozen 0
      have u1 := hT.res.frozen 1
      have u2 := hT.res.frozen 2
      have u3 := hT.res.frozen 3
      have u4 := hT.res.frozen 4
      have u5 := hT.res.frozen 5
      have u6 := hT.res.frozen 6
      simp only [thCells] at t0 t1 t2 t3 t4 t5 t6 r0 r1 r2 r3 r4 r5 r6
      have A : Aside (Th w wr k k b d e s x) := hT
      clear hT hp hd
      go_wp2
      refine bodyPost_ret (v := .agg #[.bool (al b k), .int .i64 (mx d k), .int .i64 (mx e k), .int .i64 (mx (fun i => fst' (b i) (e i) (s i) (x i)) k), .int .i64 (mx (fun i => lst' (b i) (d i) (e i) (s i) (x i)) k), .slice (some ⟨w.heap.size + 1, 0, none⟩) k k, .slice none 0 0]) (by simp [results, Try.results35, go_sem, *]) rfl ?_
      have h := A.out
      refine ⟨_, rfl, ?_, ?_⟩
      · iterate 7 refine World.rowIs.setOther ?_ (by simp) _
        exact h.ends.congr fun j hj => by rw [if_pos hj]; rfl
      · iterate 7 refine Below.setCell ?_ (by simp) _
        exact h.bel
end Go.Proofs.Qxb6600487a
