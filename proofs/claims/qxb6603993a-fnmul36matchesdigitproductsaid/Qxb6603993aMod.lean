import Derived.Test.Qxb6603993aInc
namespace Go.Proofs.Qxb6603993a
open Go.RowKit
set_option linter.unusedVariables false

theorem zero53 (w : World) : (zeroValue 53).run Try.prog w = .ok (.agg (arr 73 (fun _ => .int .i64 ((0 : Nat) : Int)))) w := by kernel_rfl

theorem zero_row (w : World) : (w.alloc (.cells #[Value.int IntKind.i64 0, Value.int IntKind.i64 0, Value.int IntKind.i64 0, Value.int IntKind.i64 0,
          Value.int IntKind.i64 0, Value.int IntKind.i64 0, Value.int IntKind.i64 0, Value.int IntKind.i64 0,
          Value.int IntKind.i64 0, Value.int IntKind.i64 0, Value.int IntKind.i64 0, Value.int IntKind.i64 0,
          Value.int IntKind.i64 0, Value.int IntKind.i64 0, Value.int IntKind.i64 0, Value.int IntKind.i64 0,
          Value.int IntKind.i64 0, Value.int IntKind.i64 0, Value.int IntKind.i64 0, Value.int IntKind.i64 0,
          Value.int IntKind.i64 0, Value.int IntKind.i64 0, Value.int IntKind.i64 0, Value.int IntKind.i64 0,
          Value.int IntKind.i64 0, Value.int IntKind.i64 0, Value.int IntKind.i64 0, Value.int IntKind.i64 0,
          Value.int IntKind.i64 0, Value.int IntKind.i64 0, Value.int IntKind.i64 0, Value.int IntKind.i64 0,
          Value.int IntKind.i64 0, Value.int IntKind.i64 0, Value.int IntKind.i64 0, Value.int IntKind.i64 0] 41)).rowIs w.heap.size 41 36 (fun _ => .int .i64 ((0 : Nat) : Int)) := by
  rw [zero36]; exact arr_row _ _ _ _

structure MW (w wr : World) (b1 b2 b3 : Nat) (X Y : Nat) (f : Nat → Nat) : Prop where
  bel : Below w.heap.size w wr
  l0 : w.heap.size ≤ b1
  l1 : b1 < b2
  l2 : b2 < b3
  r1 : wr.rowIs b1 41 36 (fun i => .int .i64 (dig X i : Int))
  r2 : wr.rowIs b2 41 36 (fun i => .int .i64 (dig Y i : Int))
  r3 : wr.rowIs b3 53 73 (fun i => .int .i64 (f i : Int))

theorem MW.set {w wr : World} {b1 b2 b3 X Y : Nat} {f g : Nat → Nat} (h : MW w wr b1 b2 b3 X Y f) (k v : Nat) (hg : ∀ j, g j = if j = k then v else f j) : MW w (wr.setCell ⟨b3, k, none⟩ (.int .i64 (v : Int))) b1 b2 b3 X Y g := by
  have h0 := h.l0
  have h1 := h.l1
  have h2 := h.l2
  refine ⟨h.bel.setCell (by show w.heap.size ≤ b3; omega) _, h0, h1, h2, h.r1.setOther (by simp; omega) _, h.r2.setOther (by simp; omega) _, ?_⟩
  refine (row_upd (f := f) (c := fun n : Nat => .int .i64 (n : Int)) h.r3 v).congr fun j _ => ?_
  rw [hg j]
  rfl

theorem MW.drew {w wr : World} {b1 b2 b3 X Y : Nat} {f : Nat → Nat} (h : MW w wr b1 b2 b3 X Y f) : MW w wr.drew b1 b2 b3 X Y f :=
  ⟨h.bel.drew, h.l0, h.l1, h.l2, h.r1.drew, h.r2.drew, h.r3.drew⟩

def model (P : Nat) (s : Int) : Nat × Int :=
  if 10 ^ 71 ≤ P then rnd (P / 10 ^ 36) (decide (5 ≤ dig P 35)) (wrap32 (s + 36)) wrap32 else rnd (P / 10 ^ 35) (decide (5 ≤ dig P 34)) (wrap32 (s + 35)) wrap32

/-- a coefficient of the documented form and its value -/
structure Form (h l X : Nat) : Prop where
  lo : 10 ^ 17 ≤ h
  hi : h < 10 ^ 18
  lw : l < 10 ^ 18
  worth : X = h * 10 ^ 18 + l

theorem Form.bounds {h l X : Nat} (F : Form h l X) : 10 ^ 35 ≤ X ∧ X < 10 ^ 36 := by
  obtain ⟨h1, h2, h3, rfl⟩ := F
  constructor <;> omega

theorem digits {h l X : Nat} (F : Form h l X) (w : World) :
    Calls Try.prog 19 #[.int .u64 h, .int .u64 l] w fun e w' => e = .returned (.agg (arr 36 fun i => .int .i64 (dig X i : Int))) ∧ Below w.heap.size w w' := by
  obtain ⟨h1, h2, h3, rfl⟩ := F
  exact digits19 h l h2 h3 w

def ModPost (R : Nat × Int) (n : Bool) (w : World) (e : Ending) (w' : World) : Prop :=
  e = .returned (.tuple #[.int .u64 (R.1 / 10 ^ 18 : Nat), .int .u64 (R.1 % 10 ^ 18 : Nat), .int .i32 R.2, .bool n]) ∧ Below w.heap.size w w'

theorem MW.alloc {w wr : World} {b1 b2 b3 X Y : Nat} {f : Nat → Nat} (h : MW w wr b1 b2 b3 X Y f) (o : Obj) : MW w (wr.alloc o) b1 b2 b3 X Y f :=
  ⟨h.bel.alloc h.bel.size _, h.l0, h.l1, h.l2, h.r1.alloc _, h.r2.alloc _, h.r3.alloc _⟩

theorem MW.setTop {w wr : World} {b1 b2 b3 b4 X Y : Nat} {f : Nat → Nat} (h : MW w wr b1 b2 b3 X Y f) (h4 : b3 < b4) (k : Nat) (v : Value) : MW w (wr.setCell ⟨b4, k, none⟩ v) b1 b2 b3 X Y f := by
  have h0 := h.l0
  have h1 := h.l1
  have h2 := h.l2
  exact ⟨h.bel.setCell (by show w.heap.size ≤ b4; omega) _, h0, h1, h2, h.r1.setOther (by simp; omega) _, h.r2.setOther (by simp; omega) _, h.r3.setOther (by simp; omega) _⟩

theorem rnd_lt {Q : Nat} {up : Bool} {e : Int} (h : Q < 10 ^ 36) : (rnd Q up e wrap32).1 < 10 ^ 36 := by
  unfold rnd
  split
  · split
    · show 10 ^ 35 < 10 ^ 36
      decide
    · show Q + 1 < 10 ^ 36
      omega
  · exact h

theorem MW.congr {w wr : World} {b1 b2 b3 X Y : Nat} {f g : Nat → Nat} (h : MW w wr b1 b2 b3 X Y f) (hg : ∀ j, j < 73 → g j = f j) : MW w wr b1 b2 b3 X Y g :=
  ⟨h.bel, h.l0, h.l1, h.l2, h.r1, h.r2, h.r3.congr fun j hj => by rw [hg j hj]⟩

set_option maxHeartbeats 4000000 in
set_option maxRecDepth 100000 in
theorem mod15 (xh xl yh yl X Y P : Nat) (xe ye : Int) (xn yn : Bool) (FX : Form xh xl X) (FY : Form yh yl Y) (hP : P = X * Y) (w : World) :
    Calls Try.prog 15 #[.int .u64 xh, .int .u64 xl, .int .i32 xe, .bool xn, .int .u64 yh, .int .u64 yl, .int .i32 ye, .bool yn] w fun e w' =>
      ModPost (model P (wrap32 (xe + ye))) (xn != yn) w e w' := by
  have hx0 : ((xh : Int) == 0) = false := beq_eq_false_iff_ne.2 (by have := FX.1; omega)
  have hy0 : ((yh : Int) == 0) = false := beq_eq_false_iff_ne.2 (by have := FY.1; omega)
  have FF : Aside (Form xh xl X ∧ Form yh yl Y) := ⟨FX, FY⟩
  have PP : Aside (P = X * Y) := hP
  clear FX FY hP
  go_enter Try.func15, Try.ntmps15
  go_wp2_with fail
  refine (digits FF.out.1 w).mono ?_
  rintro r w1 ⟨rfl, hb1⟩
  have HB1 : Aside (Below w.heap.size w w1) := hb1
  clear hb1
  go_upto_region 4 with (refine wpList_store41 rfl _ _ rfl w1.heap.size (fun i => (dig X i : Int)) rfl rfl _ (zero_row w1) ?_)
  have HW1 : Aside (Below w.heap.size w ((w1.alloc (.cells (arr 36 (fun _ => .int .i64 ((0 : Nat) : Int))) 41)).setRow w1.heap.size (arr 36 fun i => .int .i64 (dig X i : Int))) ∧ ((w1.alloc (.cells (arr 36 (fun _ => .int .i64 ((0 : Nat) : Int))) 41)).setRow w1.heap.size (arr 36 fun i => .int .i64 (dig X i : Int))).rowIs w1.heap.size 41 36 (fun i => .int .i64 (dig X i : Int)) ∧ w.heap.size ≤ w1.heap.size) := by
    refine ⟨below_setRow (HB1.out.alloc HB1.out.size _) HB1.out.size _, setRow_row (arr_row _ _ _ _), HB1.out.size⟩
  rw [zero36]
  generalize (w1.alloc (.cells (arr 36 (fun _ => .int .i64 ((0 : Nat) : Int))) 41)).setRow w1.heap.size (arr 36 fun i => .int .i64 (dig X i : Int)) = W1 at HW1 ⊢
  generalize w1.heap.size = b1 at HW1 ⊢
  clear HB1
  clear w1
  go_wp2_with fail
  refine (digits FF.out.2 W1).mono ?_
  rintro r w2 ⟨rfl, hb2⟩
  have HB2 : Aside (Below W1.heap.size W1 w2) := hb2
  clear hb2
  go_upto_region 5 with (refine wpList_store41 rfl _ _ rfl w2.heap.size (fun i => (dig Y i : Int)) rfl rfl _ (zero_row w2) ?_)
  rw [zero36]
  have HW2 : Aside (MW w (((w2.alloc (.cells (arr 36 (fun _ => .int .i64 ((0 : Nat) : Int))) 41)).setRow w2.heap.size (arr 36 fun i => .int .i64 (dig Y i : Int))).alloc (.cells (arr 73 (fun _ => .int .i64 ((0 : Nat) : Int))) 53)) b1 w2.heap.size (w2.heap.size + 1) X Y (fun _ => 0)) := by
    obtain ⟨h1, h2, h3⟩ := HW1.out
    have hB := below_step h1 HB2.out
    have hlt := h2.lt
    have hs := HB2.out.size
    refine ⟨(below_setRow (hB.alloc hB.size _) hB.size _).alloc ?_ _, h3, by omega, by omega, ?_, ?_, ?_⟩
    · simp; have := hB.size; omega
    · exact (row_setRow ((row_below h2 HB2.out hlt).alloc _) (by omega) _).alloc _
    · exact (setRow_row (arr_row _ _ _ _)).alloc _
    · have := arr_row ((w2.alloc (.cells (arr 36 (fun _ => .int .i64 ((0 : Nat) : Int))) 41)).setRow w2.heap.size (arr 36 fun i => .int .i64 (dig Y i : Int))) 73 (fun _ => .int .i64 ((0 : Nat) : Int)) 53
      simpa using this
  have hz := zero53
  clear HW1 HB2
  go_upto_region 6 with fail
  clear hz
  have HW3 : Aside (MW w (((w2.alloc (.cells (arr 36 (fun _ => .int .i64 0)) 41)).setRow w2.heap.size (arr 36 fun i => .int .i64 (dig Y i : Int))).alloc (.cells (arr 73 (fun _ => .int .i64 0)) 53)) b1 w2.heap.size (w2.heap.size + 1) X Y (fun _ => 0)) := HW2
  clear HW2
  generalize (((w2.alloc (.cells (arr 36 (fun _ => .int .i64 0)) 41)).setRow w2.heap.size (arr 36 fun i => .int .i64 (dig Y i : Int))).alloc (.cells (arr 73 (fun _ => .int .i64 0)) 53)) = W2 at HW3 ⊢
  generalize w2.heap.size + 1 = b3 at HW3 ⊢
  generalize w2.heap.size = b2 at HW3 ⊢
  clear w2
  go_wp2
  go_loopg [23] 36 (fun g v wr => ∃ (i : Nat) (f : Nat → Nat), i ≤ 36 ∧ g = 36 - i ∧ v = .int .i64 i ∧ MW w wr b1 b2 b3 X Y f ∧ val f 73 = X % 10 ^ i * Y ∧ ∀ k, f k ≤ 81 * (36 * i))
  case atStart => exact ⟨0, _, by omega, rfl, rfl, HW3.out, by rw [val_zero]; simp [Nat.mod_one], fun k => by simp⟩
  case round =>
    obtain ⟨i, f, hi, rfl, rfl, hM, hv, hf⟩ := hrel
    clear HW3
    by_cases hlt : i < 36
    · have hlz : (i : Int) < 36 := by omega
      have AA : Aside (MW w wr b1 b2 b3 X Y f ∧ val f 73 = X % 10 ^ i * Y ∧ ∀ k, f k ≤ 81 * (36 * i)) := ⟨hM, hv, hf⟩
      clear hM hv hf
      obtain ⟨wo, rfl⟩ : ∃ wo : World, wo = wr := ⟨_, rfl⟩
      go_wp2
      go_loopg [24] 36 (fun g v wr => ∃ (j : Nat) (f : Nat → Nat), j ≤ 36 ∧ g = 36 - j ∧ v = .int .i64 j ∧ MW w wr b1 b2 b3 X Y f ∧ val f 73 = X % 10 ^ i * Y + dig X i * 10 ^ i * (Y % 10 ^ j) ∧ ∀ k, f k ≤ 81 * (36 * i + j))
      case atStart => exact ⟨0, f, by omega, rfl, rfl, AA.out.1, by rw [AA.out.2.1]; simp [Nat.mod_one], AA.out.2.2⟩
      case round =>
        obtain ⟨j, g, hj, rfl, rfl, hM, hv, hg⟩ := hrel
        clear AA
        clear f
        by_cases hjl : j < 36
        · have hjz : (j : Int) < 36 := by omega
          have c1 : wr.cell? ⟨b1, i, none⟩ = some (.int .i64 (dig X i : Int)) := hM.r1.cell hlt
          have c2 : wr.cell? ⟨b2, j, none⟩ = some (.int .i64 (dig Y j : Int)) := hM.r2.cell hjl
          have c3 : wr.cell? ⟨b3, i + j, none⟩ = some (.int .i64 (g (i + j) : Int)) := hM.r3.cell (i := i + j) (by omega)
          have c4 := hM.r3.frozen (i + j)
          have d1 := dig_lt X i
          have d2 := dig_lt Y j
          have d3 := hg (i + j)
          have d4 : dig X i * dig Y j ≤ 81 := Nat.le_trans (Nat.mul_le_mul (Nat.le_of_lt_succ d1) (Nat.le_of_lt_succ d2)) (by decide)
          have AA : Aside (MW w wr b1 b2 b3 X Y g ∧ val g 73 = X % 10 ^ i * Y + dig X i * 10 ^ i * (Y % 10 ^ j) ∧ ∀ k, g k ≤ 81 * (36 * i + j)) := ⟨hM, hv, hg⟩
          clear hM hv hg
          have HD : Aside (dig X i * dig Y j ≤ 81) := d4
          have d5 : ((dig X i : Int) * (dig Y j : Int)) ≤ 81 := by exact_mod_cast d4
          have d6 : (0 : Int) ≤ ((dig X i : Int) * (dig Y j : Int)) := by exact_mod_cast Nat.zero_le _
          have d7 : (g (i + j) : Int) ≤ 104976 := by omega
          have k1 : (i : Int) + (j : Int) < 73 := by omega
          have k2 : i + j < 73 := by omega
          clear d1 d2 d3 d4
          go_wp2_with fail
          go_region
          go_wp2
          go_roundg (36 - (j + 1))
          case rel =>
            go_light
            obtain ⟨hM, hv, hg⟩ := AA.out
            have hD := HD.out
            refine ⟨j + 1, fun k => if k = i + j then g (i + j) + dig X i * dig Y j else g k, by omega, rfl, rfl, ?_, ?_, ?_⟩
            · have := (hM.set (i + j) (g (i + j) + dig X i * dig Y j) (fun k => rfl)).drew
              rw [Int.natCast_add, Int.natCast_mul] at this
              exact this
            · rw [val_upd g (i + j) (dig X i * dig Y j) k2, hv, prod_step]
            · intro k
              have h1 := hg (i + j)
              have h2 := hg k
              show (if k = i + j then g (i + j) + dig X i * dig Y j else g k) ≤ _
              split <;> omega
          case measure => go_light; omega
        · obtain rfl : j = 36 := by omega
          clear hjl
          have AA : Aside (MW w wr b1 b2 b3 X Y g ∧ val g 73 = X % 10 ^ (i + 1) * Y ∧ ∀ k, g k ≤ 81 * (36 * (i + 1))) := ⟨hM, by rw [hv, prod_row X Y i FF.out.2.bounds.2], fun k => by have := hg k; omega⟩
          clear hM hv hg
          go_wp2
          go_roundg (36 - (i + 1))
          case rel =>
            go_light
            exact ⟨i + 1, g, by omega, rfl, rfl, AA.out⟩
          case measure => go_light; omega
    · obtain rfl : i = 36 := by omega
      clear hlt
      have hv' : val f 73 = P := by rw [hv, PP.out, Nat.mod_eq_of_lt FF.out.1.bounds.2]
      have AA : Aside (MW w wr b1 b2 b3 X Y f ∧ val f 73 = P ∧ ∀ k, f k ≤ 104976) := ⟨hM, hv', fun k => by have := hf k; omega⟩
      clear hM hv hf hv'
      obtain ⟨wo, rfl⟩ : ∃ wo : World, wo = wr := ⟨_, rfl⟩
      go_wp2
      go_loopg [26, 25] 73 (fun g i v wr => ∃ k : Nat, k ≤ 73 ∧ g = 73 - k ∧ i = .int .i64 k ∧ v = .int .i64 (val f k / 10 ^ k : Nat) ∧ MW w wr b1 b2 b3 X Y (fun j => if j < k then dig P j else f j))
      case atStart => exact ⟨0, by omega, rfl, rfl, by simp [val], AA.out.1.congr fun j _ => by simp⟩
      case round =>
        obtain ⟨k, hk, rfl, rfl, rfl, hM⟩ := hrel
        by_cases hlt : k < 73
        · have hlz : (k : Int) < 73 := by omega
          have c3 := hM.r3.cell (i := k) hlt
          rw [if_neg (Nat.lt_irrefl k)] at c3
          have c4 := hM.r3.frozen k
          have d1 := carry_step f k
          have d2 := carry_next f k
          have d3 := dig_val f (n := 73) hlt
          rw [AA.out.2.1] at d3
          have d4 : val f k / 10 ^ k ≤ 104976 := carry_le f _ _ fun j _ => AA.out.2.2 j
          have d5 : f k ≤ 104976 := AA.out.2.2 k
          have MM : Aside (MW w wr b1 b2 b3 X Y (fun j => if j < k then dig P j else f j)) := hM
          clear hM
          have DD : Aside (f k + val f k / 10 ^ k = val f (k + 1) / 10 ^ k ∧ val f (k + 1) / 10 ^ k / 10 = val f (k + 1) / 10 ^ (k + 1) ∧ val f (k + 1) / 10 ^ k % 10 = dig P k) := ⟨d1, d2, d3⟩
          clear d1 d2 d3
          generalize hc : val f k / 10 ^ k = c at *
          have CC : Aside (val f k / 10 ^ k = c) := hc
          clear hc
          generalize ha : f k = a at *
          have CA : Aside (f k = a) := ha
          clear ha
          have q1 : (a : Int) ≤ 104976 := by omega
          have q2 : (c : Int) ≤ 104976 := by omega
          clear d4 d5
          go_wp2
          go_roundg (73 - (k + 1))
          case rel =>
            go_light
            obtain ⟨d1, d2, d3⟩ := DD.out
            refine ⟨k + 1, by omega, rfl, rfl, ?_, ?_⟩
            · congr 1
              omega
            · have h1 : ((a : Int) + (c : Int)) % 10 = ((dig P k : Nat) : Int) := by omega
              rw [h1]
              refine MM.out.set k (dig P k) fun j => ?_
              by_cases e1 : j = k
              · subst e1; simp
              · rw [if_neg e1]
                by_cases e2 : j < k
                · rw [if_pos e2, if_pos (by omega)]
                · rw [if_neg e2, if_neg (by omega)]
          case measure => go_light; omega
        · obtain rfl : k = 73 := by omega
          clear hlt
          have MM : Aside (MW w wr b1 b2 b3 X Y (dig P)) := hM.congr fun j hj => by simp [hj]
          clear hM
          clear AA
          clear hk
          generalize val f 73 / 10 ^ 73 = c at *
          obtain ⟨wi, rfl⟩ : ∃ wi : World, wi = wr := ⟨_, rfl⟩
          go_upto_region 21 with fail
          rw [zero36]
          have TT : Aside (MW w (wi.alloc (.cells (arr 36 (fun _ => .int .i64 ((0 : Nat) : Int))) 41)) b1 b2 b3 X Y (dig P) ∧ b3 < wi.heap.size ∧ (wi.alloc (.cells (arr 36 (fun _ => .int .i64 ((0 : Nat) : Int))) 41)).rowIs wi.heap.size 41 36 (fun _ => .int .i64 ((0 : Nat) : Int))) := ⟨MM.out.alloc _, MM.out.r3.lt, arr_row _ _ _ _⟩
          generalize wi.alloc (.cells (arr 36 (fun _ => .int .i64 ((0 : Nat) : Int))) 41) = W4 at TT ⊢
          generalize wi.heap.size = b4 at TT ⊢
          have PL : Aside (10 ^ 70 ≤ P ∧ P < 10 ^ 72) := by
            obtain ⟨x1, x2⟩ := FF.out.1.bounds
            obtain ⟨y1, y2⟩ := FF.out.2.bounds
            have e := PP.out
            refine ⟨?_, ?_⟩
            · have h1 : 10 ^ 35 * 10 ^ 35 ≤ X * Y := Nat.mul_le_mul x1 y1
              rw [← e, ← Nat.pow_add] at h1
              exact h1
            · have h1 : X * Y < 10 ^ 36 * 10 ^ 36 := Nat.mul_lt_mul_of_le_of_lt (Nat.le_of_lt x2) y2 (by decide)
              rw [← e, ← Nat.pow_add] at h1
              exact h1
          have c71 : W4.cell? ⟨b3, 71, none⟩ = some (.int .i64 (dig P 71 : Int)) := TT.out.1.r3.cell (by decide)
          by_cases hG : 10 ^ 71 ≤ P
          · have h71 : ((dig P 71 : Int) != 0) = true := by
              have h1 := PL.out.2
              have h2 : 1 ≤ P / 10 ^ 71 := by rw [Nat.le_div_iff_mul_le (p10 _)]; simpa using hG
              have h3 : P / 10 ^ 71 < 10 := by rw [Nat.div_lt_iff_lt_mul (p10 _)]; omega
              have h4 : dig P 71 = P / 10 ^ 71 := Nat.mod_eq_of_lt h3
              simp
              omega
            have HG : Aside (10 ^ 71 ≤ P) := hG
            clear hG
            generalize dig P 71 = d71 at c71 h71
            have UU : Aside (P / 10 ^ 36 < 10 ^ 36 ∧ model P (wrap32 (xe + ye)) = rnd (P / 10 ^ 36) (decide (5 ≤ dig P 35)) (wrap32 (wrap32 (xe + ye) + 36)) wrap32) := by
              refine ⟨?_, ?_⟩
              · have h1 := PL.out.2
                have h2 := HG.out
                rw [Nat.div_lt_iff_lt_mul (p10 _)]
                omega
              · simp only [model]
                rw [if_pos HG.out]
            have cn : W4.cell? ⟨b3, 35, none⟩ = some (.int .i64 (dig P 35 : Int)) := TT.out.1.r3.cell (by decide)
            go_wp2
            go_loopg [31] 36 (fun g v wr => ∃ k : Nat, k ≤ 36 ∧ g = 36 - k ∧ v = .int .i64 k ∧ MW w wr b1 b2 b3 X Y (dig P) ∧ b3 < b4 ∧ wr.rowIs b4 41 36 (fun j => .int .i64 ((if j < k then dig (P / 10 ^ 36) j else 0 : Nat) : Int)))
            case atStart => exact ⟨0, by omega, rfl, rfl, TT.out.1, TT.out.2.1, TT.out.2.2.congr fun j _ => by simp⟩
            case round =>
              obtain ⟨k, hk, rfl, rfl, hM, h34, hT⟩ := hrel
              clear cn
              by_cases hlt : k < 36
              · have hlz : (k : Int) < 36 := by omega
                have hlz2 : 36 + (k : Int) < 73 := by omega
                have hlz3 : 36 + k < 73 := by omega
                have c3 : wr.cell? ⟨b3, 36 + k, none⟩ = some (.int .i64 (dig P (36 + k) : Int)) := hM.r3.cell (i := 36 + k) (by omega)
                have c4 := hT.frozen k
                have c5 := hT.cell (i := k) hlt
                rw [if_neg (Nat.lt_irrefl k)] at c5
                have AA : Aside (MW w wr b1 b2 b3 X Y (dig P) ∧ b3 < b4 ∧ wr.rowIs b4 41 36 (fun j => .int .i64 ((if j < k then dig (P / 10 ^ 36) j else 0 : Nat) : Int))) := ⟨hM, h34, hT⟩
                clear hM h34 hT
                rw [dig_shift] at c3
                generalize hq : dig (P / 10 ^ 36) k = q at c3
                have QQ : Aside (dig (P / 10 ^ 36) k = q) := hq
                clear hq
                go_wp2
                go_roundg (36 - (k + 1))
                case rel =>
                  go_light
                  obtain ⟨hM, h34, hT⟩ := AA.out
                  refine ⟨k + 1, by omega, rfl, rfl, hM.setTop h34 _ _, h34, ?_⟩
                  have := row_step (g := fun _ => 0) (f := dig (P / 10 ^ 36)) hT
                  rw [QQ.out] at this
                  exact this
                case measure => go_light; omega
              · obtain rfl : k = 36 := by omega
                clear hlt hk
                have cn : wr.cell? ⟨b3, 35, none⟩ = some (.int .i64 (dig P 35 : Int)) := hM.r3.cell (by decide)
                have hT' : wr.rowIs b4 41 36 (fun j => .int .i64 (dig (P / 10 ^ 36) j : Int)) := hT.congr fun j hj => by simp [hj]
                have AA : Aside (Below w.heap.size w wr ∧ w.heap.size ≤ b4 ∧ wr.rowIs b4 41 36 (fun j => .int .i64 (dig (P / 10 ^ 36) j : Int))) := ⟨hM.bel, by have := hM.l0; have := hM.l1; have := hM.l2; omega, hT'⟩
                clear hM h34 hT hT'
                have dl := dig_lt P 35
                clear TT
                generalize hq : P / 10 ^ 36 = Q at *
                clear hq
                obtain ⟨es, hes⟩ : ∃ es, es = wrap32 (wrap32 (xe + ye) + 36) := ⟨_, rfl⟩
                rw [← hes] at UU
                obtain ⟨wt, rfl⟩ : ∃ wt : World, wt = wr := ⟨_, rfl⟩
                by_cases hup : 5 ≤ dig P 35
                · have hupz : (5 : Int) ≤ (dig P 35 : Int) := by omega
                  have HU : Aside (rnd Q true es wrap32 = model P (wrap32 (xe + ye))) := by show _ = _; rw [UU.out.2]; simp [hup]
                  clear hup
                  generalize dig P 35 = n at *
                  go_wp2_with (refine wpList_load41 rfl _ rfl b4 rfl _ AA.out.2.2 ?_)
                  rw [← hes]
                  refine (inc18 Q es UU.out.1 wt).mono ?_
                  rintro r w5 ⟨rfl, hb5⟩
                  rw [HU.out]
                  have HR : Aside (w5.rowIs b4 41 36 (fun j => .int .i64 (dig Q j : Int)) ∧ Below w.heap.size w w5 ∧ (model P (wrap32 (xe + ye))).1 < 10 ^ 36) := ⟨row_below AA.out.2.2 hb5 AA.out.2.2.lt, below_step AA.out.1 hb5, by rw [← HU.out]; exact rnd_lt UU.out.1⟩
                  clear hb5
                  generalize hR : model P (wrap32 (xe + ye)) = R at *
                  obtain ⟨R1, R2⟩ := R
                  have RR : Aside (model P (wrap32 (xe + ye)) = (R1, R2)) := hR
                  clear hR
                  go_upto_region 38 with (refine wpList_store41 rfl _ _ rfl b4 (fun j => (dig R1 j : Int)) rfl rfl _ HR.out.1 ?_)
                  have HS : Aside ((w5.setRow b4 (arr 36 fun i => .int .i64 (dig R1 i : Int))).rowIs b4 41 36 (fun j => .int .i64 (dig R1 j : Int)) ∧ Below w.heap.size w (w5.setRow b4 (arr 36 fun i => .int .i64 (dig R1 i : Int)))) := ⟨setRow_row HR.out.1, below_setRow HR.out.2.1 AA.out.2.1 _⟩
                  generalize w5.setRow b4 (arr 36 fun i => .int .i64 (dig R1 i : Int)) = w6 at HS ⊢
                  go_wp2_with (refine wpList_load41 rfl _ rfl b4 rfl _ HS.out.1 ?_)
                  refine (pack20 R1 HR.out.2.2 w6).mono ?_
                  rintro r w7 ⟨rfl, hb7⟩
                  have HB7 : Aside (Below w.heap.size w w7) := below_step HS.out.2 hb7
                  clear hb7
                  generalize ha : R1 / 10 ^ 18 = ra at *
                  generalize hb : R1 % 10 ^ 18 = rb at *
                  have HAB : Aside (R1 / 10 ^ 18 = ra ∧ R1 % 10 ^ 18 = rb) := ⟨ha, hb⟩
                  clear ha hb
                  go_wp2
                  refine bodyPost_ret (v := .tuple #[.int .u64 (ra : Int), .int .u64 (rb : Int), .int .i32 R2, .bool (xn != yn)]) (by simp [results, Try.results15, go_sem]; cases xn <;> cases yn <;> rfl) rfl ?_
                  refine ⟨?_, HB7.out⟩
                  rw [RR.out, ← HAB.out.1, ← HAB.out.2]
                · have hupz : (dig P 35 : Int) < 5 := by omega
                  have HU : Aside ((Q, es) = model P (wrap32 (xe + ye))) := by show _ = _; rw [UU.out.2]; simp [hup, rnd]
                  clear hup
                  generalize dig P 35 = n at *
                  go_wp2_with (refine wpList_load41 rfl _ rfl b4 rfl _ AA.out.2.2 ?_)
                  refine (pack20 Q UU.out.1 wt).mono ?_
                  rintro r w7 ⟨rfl, hb7⟩
                  have HB7 : Aside (Below w.heap.size w w7) := below_step AA.out.1 hb7
                  clear hb7
                  generalize ha : Q / 10 ^ 18 = ra at *
                  generalize hb : Q % 10 ^ 18 = rb at *
                  have HAB : Aside (Q / 10 ^ 18 = ra ∧ Q % 10 ^ 18 = rb) := ⟨ha, hb⟩
                  clear ha hb
                  go_wp2
                  refine bodyPost_ret (v := .tuple #[.int .u64 (ra : Int), .int .u64 (rb : Int), .int .i32 es, .bool (xn != yn)]) (by simp [results, Try.results15, go_sem, hes]; cases xn <;> cases yn <;> rfl) rfl ?_
                  refine ⟨?_, HB7.out⟩
                  rw [← HU.out, HAB.out.1, HAB.out.2]
          · have h71 : ((dig P 71 : Int) != 0) = false := by
              have h4 : dig P 71 = 0 := by unfold dig; rw [Nat.div_eq_of_lt (by omega)]
              rw [h4]
              rfl
            have HG : Aside (¬ 10 ^ 71 ≤ P) := hG
            clear hG
            generalize dig P 71 = d71 at c71 h71
            have UU : Aside (P / 10 ^ 35 < 10 ^ 36 ∧ model P (wrap32 (xe + ye)) = rnd (P / 10 ^ 35) (decide (5 ≤ dig P 34)) (wrap32 (wrap32 (xe + ye) + 35)) wrap32) := by
              refine ⟨?_, ?_⟩
              · have h1 := PL.out.2
                have h2 := HG.out
                rw [Nat.div_lt_iff_lt_mul (p10 _)]
                omega
              · simp only [model]
                rw [if_neg HG.out]
            have cn : W4.cell? ⟨b3, 34, none⟩ = some (.int .i64 (dig P 34 : Int)) := TT.out.1.r3.cell (by decide)
            go_wp2
            go_loopg [32] 36 (fun g v wr => ∃ k : Nat, k ≤ 36 ∧ g = 36 - k ∧ v = .int .i64 k ∧ MW w wr b1 b2 b3 X Y (dig P) ∧ b3 < b4 ∧ wr.rowIs b4 41 36 (fun j => .int .i64 ((if j < k then dig (P / 10 ^ 35) j else 0 : Nat) : Int)))
            case atStart => exact ⟨0, by omega, rfl, rfl, TT.out.1, TT.out.2.1, TT.out.2.2.congr fun j _ => by simp⟩
            case round =>
              obtain ⟨k, hk, rfl, rfl, hM, h34, hT⟩ := hrel
              clear cn
              by_cases hlt : k < 36
              · have hlz : (k : Int) < 36 := by omega
                have hlz2 : 35 + (k : Int) < 73 := by omega
                have hlz3 : 35 + k < 73 := by omega
                have c3 : wr.cell? ⟨b3, 35 + k, none⟩ = some (.int .i64 (dig P (35 + k) : Int)) := hM.r3.cell (i := 35 + k) (by omega)
                have c4 := hT.frozen k
                have c5 := hT.cell (i := k) hlt
                rw [if_neg (Nat.lt_irrefl k)] at c5
                have AA : Aside (MW w wr b1 b2 b3 X Y (dig P) ∧ b3 < b4 ∧ wr.rowIs b4 41 36 (fun j => .int .i64 ((if j < k then dig (P / 10 ^ 35) j else 0 : Nat) : Int))) := ⟨hM, h34, hT⟩
                clear hM h34 hT
                rw [dig_shift] at c3
                generalize hq : dig (P / 10 ^ 35) k = q at c3
                have QQ : Aside (dig (P / 10 ^ 35) k = q) := hq
                clear hq
                go_wp2
                go_roundg (36 - (k + 1))
                case rel =>
                  go_light
                  obtain ⟨hM, h34, hT⟩ := AA.out
                  refine ⟨k + 1, by omega, rfl, rfl, hM.setTop h34 _ _, h34, ?_⟩
                  have := row_step (g := fun _ => 0) (f := dig (P / 10 ^ 35)) hT
                  rw [QQ.out] at this
                  exact this
                case measure => go_light; omega
              · obtain rfl : k = 36 := by omega
                clear hlt hk
                have cn : wr.cell? ⟨b3, 34, none⟩ = some (.int .i64 (dig P 34 : Int)) := hM.r3.cell (by decide)
                have hT' : wr.rowIs b4 41 36 (fun j => .int .i64 (dig (P / 10 ^ 35) j : Int)) := hT.congr fun j hj => by simp [hj]
                have AA : Aside (Below w.heap.size w wr ∧ w.heap.size ≤ b4 ∧ wr.rowIs b4 41 36 (fun j => .int .i64 (dig (P / 10 ^ 35) j : Int))) := ⟨hM.bel, by have := hM.l0; have := hM.l1; have := hM.l2; omega, hT'⟩
                clear hM h34 hT hT'
                have dl := dig_lt P 34
                clear TT
                generalize hq : P / 10 ^ 35 = Q at *
                clear hq
                obtain ⟨es, hes⟩ : ∃ es, es = wrap32 (wrap32 (xe + ye) + 35) := ⟨_, rfl⟩
                rw [← hes] at UU
                obtain ⟨wt, rfl⟩ : ∃ wt : World, wt = wr := ⟨_, rfl⟩
                by_cases hup : 5 ≤ dig P 34
                · have hupz : (5 : Int) ≤ (dig P 34 : Int) := by omega
                  have HU : Aside (rnd Q true es wrap32 = model P (wrap32 (xe + ye))) := by show _ = _; rw [UU.out.2]; simp [hup]
                  clear hup
                  generalize dig P 34 = n at *
                  go_wp2_with (refine wpList_load41 rfl _ rfl b4 rfl _ AA.out.2.2 ?_)
                  rw [← hes]
                  refine (inc18 Q es UU.out.1 wt).mono ?_
                  rintro r w5 ⟨rfl, hb5⟩
                  rw [HU.out]
                  have HR : Aside (w5.rowIs b4 41 36 (fun j => .int .i64 (dig Q j : Int)) ∧ Below w.heap.size w w5 ∧ (model P (wrap32 (xe + ye))).1 < 10 ^ 36) := ⟨row_below AA.out.2.2 hb5 AA.out.2.2.lt, below_step AA.out.1 hb5, by rw [← HU.out]; exact rnd_lt UU.out.1⟩
                  clear hb5
                  generalize hR : model P (wrap32 (xe + ye)) = R at *
                  obtain ⟨R1, R2⟩ := R
                  have RR : Aside (model P (wrap32 (xe + ye)) = (R1, R2)) := hR
                  clear hR
                  go_upto_region 38 with (refine wpList_store41 rfl _ _ rfl b4 (fun j => (dig R1 j : Int)) rfl rfl _ HR.out.1 ?_)
                  have HS : Aside ((w5.setRow b4 (arr 36 fun i => .int .i64 (dig R1 i : Int))).rowIs b4 41 36 (fun j => .int .i64 (dig R1 j : Int)) ∧ Below w.heap.size w (w5.setRow b4 (arr 36 fun i => .int .i64 (dig R1 i : Int)))) := ⟨setRow_row HR.out.1, below_setRow HR.out.2.1 AA.out.2.1 _⟩
                  generalize w5.setRow b4 (arr 36 fun i => .int .i64 (dig R1 i : Int)) = w6 at HS ⊢
                  go_wp2_with (refine wpList_load41 rfl _ rfl b4 rfl _ HS.out.1 ?_)
                  refine (pack20 R1 HR.out.2.2 w6).mono ?_
                  rintro r w7 ⟨rfl, hb7⟩
                  have HB7 : Aside (Below w.heap.size w w7) := below_step HS.out.2 hb7
                  clear hb7
                  generalize ha : R1 / 10 ^ 18 = ra at *
                  generalize hb : R1 % 10 ^ 18 = rb at *
                  have HAB : Aside (R1 / 10 ^ 18 = ra ∧ R1 % 10 ^ 18 = rb) := ⟨ha, hb⟩
                  clear ha hb
                  go_wp2
                  refine bodyPost_ret (v := .tuple #[.int .u64 (ra : Int), .int .u64 (rb : Int), .int .i32 R2, .bool (xn != yn)]) (by simp [results, Try.results15, go_sem]; cases xn <;> cases yn <;> rfl) rfl ?_
                  refine ⟨?_, HB7.out⟩
                  rw [RR.out, ← HAB.out.1, ← HAB.out.2]
                · have hupz : (dig P 34 : Int) < 5 := by omega
                  have HU : Aside ((Q, es) = model P (wrap32 (xe + ye))) := by show _ = _; rw [UU.out.2]; simp [hup, rnd]
                  clear hup
                  generalize dig P 34 = n at *
                  go_wp2_with (refine wpList_load41 rfl _ rfl b4 rfl _ AA.out.2.2 ?_)
                  refine (pack20 Q UU.out.1 wt).mono ?_
                  rintro r w7 ⟨rfl, hb7⟩
                  have HB7 : Aside (Below w.heap.size w w7) := below_step AA.out.1 hb7
                  clear hb7
                  generalize ha : Q / 10 ^ 18 = ra at *
                  generalize hb : Q % 10 ^ 18 = rb at *
                  have HAB : Aside (Q / 10 ^ 18 = ra ∧ Q % 10 ^ 18 = rb) := ⟨ha, hb⟩
                  clear ha hb
                  go_wp2
                  refine bodyPost_ret (v := .tuple #[.int .u64 (ra : Int), .int .u64 (rb : Int), .int .i32 es, .bool (xn != yn)]) (by simp [results, Try.results15, go_sem, hes]; cases xn <;> cases yn <;> rfl) rfl ?_
                  refine ⟨?_, HB7.out⟩
                  rw [← HU.out, HAB.out.1, HAB.out.2]
end Go.Proofs.Qxb6603993a
