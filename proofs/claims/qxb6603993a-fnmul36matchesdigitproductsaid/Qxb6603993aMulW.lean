import Derived.Test.Qxb6603993aMul
namespace Go.Proofs.Qxb6603993a
open Go.RowKit
set_option linter.unusedVariables false

theorem prod_lt {a b : Nat} (ha : a < 10 ^ 9) (hb : b < 10 ^ 9) : ∃ p : Nat, p = a * b ∧ (a : Int) * (b : Int) = (p : Int) ∧ (p : Int) < 1000000000000000000 := by
  refine ⟨a * b, rfl, by rw [Int.natCast_mul], ?_⟩
  have h1 : a * b ≤ (10 ^ 9 - 1) * (10 ^ 9 - 1) := Nat.mul_le_mul (by omega) (by omega)
  omega

theorem P_bounds {xh xl yh yl X Y P : Nat} (FX : Form xh xl X) (FY : Form yh yl Y) (hP : P = X * Y) : 10 ^ 70 ≤ P ∧ P < 10 ^ 72 := by
  obtain ⟨x1, x2⟩ := FX.bounds
  obtain ⟨y1, y2⟩ := FY.bounds
  refine ⟨?_, ?_⟩
  · have h1 : 10 ^ 35 * 10 ^ 35 ≤ X * Y := Nat.mul_le_mul x1 y1
    rw [← hP, ← Nat.pow_add] at h1
    exact h1
  · have h1 : X * Y < 10 ^ 36 * 10 ^ 36 := Nat.mul_lt_mul_of_le_of_lt (Nat.le_of_lt x2) y2 (by decide)
    rw [← hP, ← Nat.pow_add] at h1
    exact h1

theorem limb_split {h l X a0 a1 a2 a3 : Nat} (hX : X = h * 10 ^ 18 + l) (h0 : a0 = h / 10 ^ 9) (h1 : a1 = h % 10 ^ 9) (h2 : a2 = l / 10 ^ 9) (h3 : a3 = l % 10 ^ 9) : X = a0 * 10 ^ 27 + a1 * 10 ^ 18 + a2 * 10 ^ 9 + a3 := by
  have e1 := Nat.div_add_mod h (10 ^ 9)
  have e2 := Nat.div_add_mod l (10 ^ 9)
  rw [← h0, ← h1] at e1
  rw [← h2, ← h3] at e2
  rw [hX]
  clear hX h0 h1 h2 h3
  omega

theorem wrap_back (s : Int) : wrap32 (wrap32 (s + 36) - 1) = wrap32 (s + 35) := by
  unfold wrap32
  omega

theorem hi_case {P q c0 m1 m2 m3 : Nat} (hq : q = P / 10 ^ 27) (h3 : m3 = q % 10 ^ 9) (h2 : m2 = q / 10 ^ 9 % 10 ^ 9) (h1 : m1 = q / 10 ^ 18 % 10 ^ 9) (h0 : c0 = q / 10 ^ 27) (hP : P < 10 ^ 72) (hc : 10 ^ 17 ≤ c0) :
    ∃ Q, Q < 10 ^ 36 ∧ c0 = Q / 10 ^ 18 ∧ m1 * 10 ^ 9 + m2 = Q % 10 ^ 18 ∧ ∀ s, model P s = rnd Q (decide (500000000 ≤ m3)) (wrap32 (s + 36)) wrap32 := by
  have e1 : P / 10 ^ 36 = q / 10 ^ 9 := by rw [hq, Nat.div_div_eq_div_mul]
  have e2 : P / 10 ^ 35 = q / 10 ^ 8 := by rw [hq, Nat.div_div_eq_div_mul]
  have e3 : q / 10 ^ 18 = q / 10 ^ 9 / 10 ^ 9 := by rw [Nat.div_div_eq_div_mul]
  have e4 : q / 10 ^ 27 = q / 10 ^ 9 / 10 ^ 18 := by rw [Nat.div_div_eq_div_mul]
  have hqb : q < 10 ^ 45 := by rw [hq, Nat.div_lt_iff_lt_mul (p10 _), ← Nat.pow_add]; exact hP
  refine ⟨P / 10 ^ 36, ?_, ?_, ?_, fun s => ?_⟩
  · rw [e1]; omega
  · rw [e1, h0, e4]
  · rw [e1, h1, h2, e3]; omega
  · have hG : 10 ^ 71 ≤ P := by
      have : 10 ^ 44 ≤ q := by omega
      rw [hq, Nat.le_div_iff_mul_le (p10 _), ← Nat.pow_add] at this
      exact this
    have hd : dig P 35 = q / 10 ^ 8 % 10 := by unfold dig; rw [e2]
    unfold model
    rw [if_pos hG]
    congr 1
    rw [hd, h3]
    congr 1
    simp only [eq_iff_iff]
    omega

theorem lo_case {P q c0 m1 m2 m3 : Nat} (hq : q = P / 10 ^ 27) (h3 : m3 = q % 10 ^ 9) (h2 : m2 = q / 10 ^ 9 % 10 ^ 9) (h1 : m1 = q / 10 ^ 18 % 10 ^ 9) (h0 : c0 = q / 10 ^ 27) (hP : P < 10 ^ 72) (hc : c0 < 10 ^ 17) :
    ∃ Q, Q < 10 ^ 36 ∧ c0 * 10 + m1 / 10 ^ 8 = Q / 10 ^ 18 ∧ (m1 % 10 ^ 8 * 10 ^ 9 + m2) * 10 + m3 / 10 ^ 8 = Q % 10 ^ 18 ∧ ∀ s, model P s = rnd Q (decide (500000000 ≤ m3 % 10 ^ 8 * 10)) (wrap32 (s + 35)) wrap32 := by
  have e1 : P / 10 ^ 35 = q / 10 ^ 8 := by rw [hq, Nat.div_div_eq_div_mul]
  have e2 : P / 10 ^ 34 = q / 10 ^ 7 := by rw [hq, Nat.div_div_eq_div_mul]
  have hqb : q < 10 ^ 44 := by omega
  have hG : ¬ 10 ^ 71 ≤ P := by
    intro h
    have : 10 ^ 44 ≤ q := by
      rw [hq, Nat.le_div_iff_mul_le (p10 _), ← Nat.pow_add]
      exact h
    omega
  refine ⟨P / 10 ^ 35, ?_, ?_, ?_, fun s => ?_⟩
  · rw [e1]; omega
  · rw [e1, h0, h1]; omega
  · rw [e1, h1, h2, h3]; omega
  · have hd : dig P 34 = q / 10 ^ 7 % 10 := by unfold dig; rw [e2]
    unfold model
    rw [if_neg hG]
    congr 1
    rw [hd, h3]
    congr 1
    simp only [eq_iff_iff]
    omega

def MulPost (R : Nat × Int) (n : Bool) (w : World) (r : Ending) (w' : World) : Prop :=
  r = .returned (dec (R.1 / 10 ^ 18) (R.1 % 10 ^ 18) R.2 n) ∧ Below w.heap.size w w'

structure DW (w wr : World) (x y : Array Value) : Prop where
  bel : Below w.heap.size w wr
  bx : wr.heap[w.heap.size]? = some (.cells x 32 (0, 0))
  by' : wr.heap[w.heap.size + 1]? = some (.cells y 32 (0, 0))
  bz : wr.heap[w.heap.size + 1 + 1]? = some (.cells #[.int .u64 0, .int .u64 0, .int .i32 0, .bool false] 32 (0, 0))

theorem DW.lt {w wr : World} {x y : Array Value} (h : DW w wr x y) : w.heap.size + 1 + 1 < wr.heap.size := (Array.getElem?_eq_some_iff.1 h.bz).1

theorem DW.later {w wr w' : World} {x y : Array Value} (h : DW w wr x y) (hb : Below wr.heap.size wr w') : DW w w' x y := by
  have := h.lt
  exact ⟨below_step h.bel hb, (hb.block _ (by omega)).trans h.bx, (hb.block _ (by omega)).trans h.by', (hb.block _ (by omega)).trans h.bz⟩

theorem DW.start (w : World) (x y : Array Value) : DW w (((w.alloc (.cells x 32)).alloc (.cells y 32)).alloc (.cells #[.int .u64 0, .int .u64 0, .int .i32 0, .bool false] 32)) x y := by
  refine ⟨(((Below.refl _ _).alloc (Nat.le_refl _) _).alloc (by simp) _).alloc (by simp; omega) _, ?_, ?_, ?_⟩
  · rw [Go.heap_alloc_old _ _ (by simp; omega), Go.heap_alloc_old _ _ (by simp), Go.heap_alloc_new]
  · rw [Go.heap_alloc_old _ _ (by simp)]
    have := Go.heap_alloc_new (w.alloc (.cells x 32)) (.cells y 32)
    simpa using this
  · have := Go.heap_alloc_new ((w.alloc (.cells x 32)).alloc (.cells y 32)) (.cells #[.int .u64 0, .int .u64 0, .int .i32 0, .bool false] 32)
    simpa using this

theorem DW.drewN {w wr : World} {x y : Array Value} (h : DW w wr x y) (n : Nat) : DW w (wr.drewN n) x y := ⟨below_drewN h.bel n, h.bx, h.by', h.bz⟩

theorem info32 : (Try.prog.info? 32).map (·.size) = some 4 := by kernel_rfl

theorem wpList_store32 {ops : Array Oper} {rest : List Oper} {o : Oper} {a : Act} {w : World} {Q : Exit → Act → World → Prop} (hgd : o.guard = none) (x y : Operand) (ho : o.op = .store 32 x y)
    (b : Nat) (h l : Nat) (e : Int) (n : Bool) (hx : a.eval x = .pointer (some ⟨b, 0, none⟩)) (hy : a.eval y = dec h l e n) (old : Array Value) (hs : old.size = 4) (hr : w.heap[b]? = some (.cells old 32 (0, 0)))
    (hK : wpList Try.prog ops Q rest (a.put o.dst undef) (w.setRow b #[.int .u64 h, .int .u64 l, .int .i32 e, .bool n])) : wpList Try.prog ops Q (o :: rest) a w :=
  wpList_store_row hgd 32 x y ho b _ hx hy 32 old hr info32 hs (by simp [Value.oneCell']) hK

theorem res32 {fn : Func} {p : Tmp} (h : fn.results = #[.cell p 32]) (tmps : Array Value) (w : World) (b : Nat) (cs : Array Value) (hp : tmps.getD p undef = .pointer (some ⟨b, 0, none⟩)) (hr : w.heap[b]? = some (.cells cs 32 (0, 0))) (hs : cs.size = 4) :
    (results fn tmps).run Try.prog w = .ok (.agg cs) w :=
  results_cell_row h tmps w b 32 cs (0, 0) _ hp hr Try.underlying32 rfl (by rw [hs]; exact info32)

set_option maxHeartbeats 1000000 in
set_option maxRecDepth 100000 in
theorem mul0 (xh xl yh yl : Nat) (xe ye : Int) (xn yn : Bool) (h0 : xh = 0 ∨ yh = 0) (w : World) :
    Calls Try.prog 14 #[dec xh xl xe xn, dec yh yl ye yn] w fun r w' => r = .returned (dec 0 0 0 false) ∧ Below w.heap.size w w' := by
  have D0 : Aside (DW w (((w.alloc (.cells #[.int .u64 xh, .int .u64 xl, .int .i32 xe, .bool xn] 32)).alloc (.cells #[.int .u64 yh, .int .u64 yl, .int .i32 ye, .bool yn] 32)).alloc (.cells #[.int .u64 0, .int .u64 0, .int .i32 0, .bool false] 32)) #[.int .u64 xh, .int .u64 xl, .int .i32 xe, .bool xn] #[.int .u64 yh, .int .u64 yl, .int .i32 ye, .bool yn]) := DW.start w _ _
  by_cases hx : xh = 0
  · have hx0 : ((xh : Int) == 0) = true := by rw [hx]; rfl
    clear hx h0
    unfold dec
    go_enter Try.func14, Try.ntmps14
    go_wp2_with fail
    refine (isz25 xh xl xe xn _).mono ?_
    rintro r w1 ⟨rfl, hb⟩
    have D1 : Aside (DW w w1 #[.int .u64 xh, .int .u64 xl, .int .i32 xe, .bool xn] #[.int .u64 yh, .int .u64 yl, .int .i32 ye, .bool yn]) := D0.out.later hb
    clear hb D0
    go_wp2_with (refine wpList_store32 rfl _ _ rfl (w.heap.size + 1 + 1) 0 0 0 false rfl rfl _ rfl D1.out.bz ?_)
    refine bodyPost_ret (res32 rfl _ _ (w.heap.size + 1 + 1) #[.int .u64 0, .int .u64 0, .int .i32 0, .bool false] rfl (setRow_heap _ _ _ _ _ _ D1.out.bz) rfl) rfl ?_
    exact ⟨rfl, below_setRow D1.out.bel (by omega) _⟩
  · have hx0 : ((xh : Int) == 0) = false := beq_eq_false_iff_ne.2 (by omega)
    have hy0 : ((yh : Int) == 0) = true := by rw [h0.resolve_left hx]; rfl
    clear hx h0
    unfold dec
    go_enter Try.func14, Try.ntmps14
    go_wp2_with fail
    refine (isz25 xh xl xe xn _).mono ?_
    rintro r w1 ⟨rfl, hb⟩
    have D1 : Aside (DW w w1 #[.int .u64 xh, .int .u64 xl, .int .i32 xe, .bool xn] #[.int .u64 yh, .int .u64 yl, .int .i32 ye, .bool yn]) := D0.out.later hb
    clear hb D0
    have y0 : w1.cell? ⟨w.heap.size + 1, 0, none⟩ = some (.int .u64 yh) := cell_of_row _ _ 0 _ _ _ D1.out.by'
    have y1 : w1.cell? ⟨w.heap.size + 1, 1, none⟩ = some (.int .u64 yl) := cell_of_row _ _ 1 _ _ _ D1.out.by'
    have y2 : w1.cell? ⟨w.heap.size + 1, 2, none⟩ = some (.int .i32 ye) := cell_of_row _ _ 2 _ _ _ D1.out.by'
    have y3 : w1.cell? ⟨w.heap.size + 1, 3, none⟩ = some (.bool yn) := cell_of_row _ _ 3 _ _ _ D1.out.by'
    go_wp2_with fail
    refine (isz25 yh yl ye yn _).mono ?_
    rintro r w2 ⟨rfl, hb⟩
    have D2 : Aside (DW w w2 #[.int .u64 xh, .int .u64 xl, .int .i32 xe, .bool xn] #[.int .u64 yh, .int .u64 yl, .int .i32 ye, .bool yn]) := D1.out.later hb
    clear hb D1 y0 y1 y2 y3
    go_wp2_with (refine wpList_store32 rfl _ _ rfl (w.heap.size + 1 + 1) 0 0 0 false rfl rfl _ rfl D2.out.bz ?_)
    refine bodyPost_ret (res32 rfl _ _ (w.heap.size + 1 + 1) #[.int .u64 0, .int .u64 0, .int .i32 0, .bool false] rfl (setRow_heap _ _ _ _ _ _ D2.out.bz) rfl) rfl ?_
    exact ⟨rfl, below_setRow D2.out.bel (by omega) _⟩

theorem mod0 (xh xl yh yl : Nat) (xe ye : Int) (xn yn : Bool) (h0 : xh = 0 ∨ yh = 0) (w : World) :
    Calls Try.prog 15 #[.int .u64 xh, .int .u64 xl, .int .i32 xe, .bool xn, .int .u64 yh, .int .u64 yl, .int .i32 ye, .bool yn] w fun r w' => r = .returned (.tuple #[.int .u64 0, .int .u64 0, .int .i32 0, .bool false]) ∧ w' = w := by
  by_cases hx : xh = 0
  · have hx0 : ((xh : Int) == 0) = true := by rw [hx]; rfl
    clear hx h0
    go_enter Try.func15, Try.ntmps15
    go_wp2
    exact bodyPost_ret (v := .tuple #[.int .u64 0, .int .u64 0, .int .i32 0, .bool false]) (by simp [results, Try.results15, go_sem]) rfl ⟨rfl, rfl⟩
  · have hx0 : ((xh : Int) == 0) = false := beq_eq_false_iff_ne.2 (by omega)
    have hy0 : ((yh : Int) == 0) = true := by rw [h0.resolve_left hx]; rfl
    clear hx h0
    go_enter Try.func15, Try.ntmps15
    go_wp2
    exact bodyPost_ret (v := .tuple #[.int .u64 0, .int .u64 0, .int .i32 0, .bool false]) (by simp [results, Try.results15, go_sem]) rfl ⟨rfl, rfl⟩

set_option maxHeartbeats 4000000 in
set_option maxRecDepth 100000 in
theorem mul14 (xh xl yh yl X Y P : Nat) (xe ye : Int) (xn yn : Bool) (FX : Form xh xl X) (FY : Form yh yl Y) (hP : P = X * Y) (w : World) :
    Calls Try.prog 14 #[dec xh xl xe xn, dec yh yl ye yn] w fun r w' => MulPost (model P (wrap32 (xe + ye))) (xn != yn) w r w' := by
  have hx0 : ((xh : Int) == 0) = false := beq_eq_false_iff_ne.2 (by have := FX.1; omega)
  have hy0 : ((yh : Int) == 0) = false := beq_eq_false_iff_ne.2 (by have := FY.1; omega)
  have FF : Aside (Form xh xl X ∧ Form yh yl Y) := ⟨FX, FY⟩
  have PP : Aside (P = X * Y) := hP
  clear FX FY hP
  have D0 : Aside (DW w (((w.alloc (.cells #[.int .u64 xh, .int .u64 xl, .int .i32 xe, .bool xn] 32)).alloc (.cells #[.int .u64 yh, .int .u64 yl, .int .i32 ye, .bool yn] 32)).alloc (.cells #[.int .u64 0, .int .u64 0, .int .i32 0, .bool false] 32)) #[.int .u64 xh, .int .u64 xl, .int .i32 xe, .bool xn] #[.int .u64 yh, .int .u64 yl, .int .i32 ye, .bool yn]) := DW.start w _ _
  unfold dec
  go_enter Try.func14, Try.ntmps14
  go_wp2_with fail
  refine (isz25 xh xl xe xn _).mono ?_
  rintro r w1 ⟨rfl, hb⟩
  have D1 : Aside (DW w w1 #[.int .u64 xh, .int .u64 xl, .int .i32 xe, .bool xn] #[.int .u64 yh, .int .u64 yl, .int .i32 ye, .bool yn]) := D0.out.later hb
  clear hb D0
  have y0 : w1.cell? ⟨w.heap.size + 1, 0, none⟩ = some (.int .u64 yh) := cell_of_row _ _ 0 _ _ _ D1.out.by'
  have y1 : w1.cell? ⟨w.heap.size + 1, 1, none⟩ = some (.int .u64 yl) := cell_of_row _ _ 1 _ _ _ D1.out.by'
  have y2 : w1.cell? ⟨w.heap.size + 1, 2, none⟩ = some (.int .i32 ye) := cell_of_row _ _ 2 _ _ _ D1.out.by'
  have y3 : w1.cell? ⟨w.heap.size + 1, 3, none⟩ = some (.bool yn) := cell_of_row _ _ 3 _ _ _ D1.out.by'
  go_wp2_with fail
  refine (isz25 yh yl ye yn _).mono ?_
  rintro r w2 ⟨rfl, hb⟩
  have D2 : Aside (DW w w2 #[.int .u64 xh, .int .u64 xl, .int .i32 xe, .bool xn] #[.int .u64 yh, .int .u64 yl, .int .i32 ye, .bool yn]) := D1.out.later hb
  clear hb D1 y0 y1 y2 y3
  have y0 : w2.cell? ⟨w.heap.size + 1, 0, none⟩ = some (.int .u64 yh) := cell_of_row _ _ 0 _ _ _ D2.out.by'
  have y1 : w2.cell? ⟨w.heap.size + 1, 1, none⟩ = some (.int .u64 yl) := cell_of_row _ _ 1 _ _ _ D2.out.by'
  have y2 : w2.cell? ⟨w.heap.size + 1, 2, none⟩ = some (.int .i32 ye) := cell_of_row _ _ 2 _ _ _ D2.out.by'
  have y3 : w2.cell? ⟨w.heap.size + 1, 3, none⟩ = some (.bool yn) := cell_of_row _ _ 3 _ _ _ D2.out.by'
  have x0 : w2.cell? ⟨w.heap.size, 0, none⟩ = some (.int .u64 xh) := cell_of_row _ _ 0 _ _ _ D2.out.bx
  have x1 : w2.cell? ⟨w.heap.size, 1, none⟩ = some (.int .u64 xl) := cell_of_row _ _ 1 _ _ _ D2.out.bx
  have x2 : w2.cell? ⟨w.heap.size, 2, none⟩ = some (.int .i32 xe) := cell_of_row _ _ 2 _ _ _ D2.out.bx
  have x3 : w2.cell? ⟨w.heap.size, 3, none⟩ = some (.bool xn) := cell_of_row _ _ 3 _ _ _ D2.out.bx
  have xz : (xh : Int) < 1000000000000000000 ∧ (xl : Int) < 1000000000000000000 := by
    have h1 := FF.out.1.hi
    have h2 := FF.out.1.lw
    constructor <;> omega
  have yz : (yh : Int) < 1000000000000000000 ∧ (yl : Int) < 1000000000000000000 := by
    have h1 := FF.out.2.hi
    have h2 := FF.out.2.lw
    constructor <;> omega
  obtain ⟨xz1, xz2⟩ := xz
  obtain ⟨yz1, yz2⟩ := yz
  go_upto_region 4 with (go_quiet (fail))
  have D3 : Aside (DW w (w2.drewN nq) #[.int .u64 xh, .int .u64 xl, .int .i32 xe, .bool xn] #[.int .u64 yh, .int .u64 yl, .int .i32 ye, .bool yn]) := D2.out.drewN _
  clear x0 x1 x2 x3 y0 y1 y2 y3 D2
  generalize w2.drewN nq = w3 at D3 ⊢
  have y0 : w3.cell? ⟨w.heap.size + 1, 0, none⟩ = some (.int .u64 yh) := cell_of_row _ _ 0 _ _ _ D3.out.by'
  have y1 : w3.cell? ⟨w.heap.size + 1, 1, none⟩ = some (.int .u64 yl) := cell_of_row _ _ 1 _ _ _ D3.out.by'
  have y2 : w3.cell? ⟨w.heap.size + 1, 2, none⟩ = some (.int .i32 ye) := cell_of_row _ _ 2 _ _ _ D3.out.by'
  have y3 : w3.cell? ⟨w.heap.size + 1, 3, none⟩ = some (.bool yn) := cell_of_row _ _ 3 _ _ _ D3.out.by'
  have x0 : w3.cell? ⟨w.heap.size, 0, none⟩ = some (.int .u64 xh) := cell_of_row _ _ 0 _ _ _ D3.out.bx
  have x1 : w3.cell? ⟨w.heap.size, 1, none⟩ = some (.int .u64 xl) := cell_of_row _ _ 1 _ _ _ D3.out.bx
  have x2 : w3.cell? ⟨w.heap.size, 2, none⟩ = some (.int .i32 xe) := cell_of_row _ _ 2 _ _ _ D3.out.bx
  have x3 : w3.cell? ⟨w.heap.size, 3, none⟩ = some (.bool xn) := cell_of_row _ _ 3 _ _ _ D3.out.bx
  go_upto_region 5 with (go_quiet (fail))
  have D4 : Aside (DW w (w3.drewN nq) #[.int .u64 xh, .int .u64 xl, .int .i32 xe, .bool xn] #[.int .u64 yh, .int .u64 yl, .int .i32 ye, .bool yn]) := D3.out.drewN _
  clear x0 x1 x2 x3 y0 y1 y2 y3 D3
  generalize w3.drewN nq = w4 at D4 ⊢
  have y0 : w4.cell? ⟨w.heap.size + 1, 0, none⟩ = some (.int .u64 yh) := cell_of_row _ _ 0 _ _ _ D4.out.by'
  have y1 : w4.cell? ⟨w.heap.size + 1, 1, none⟩ = some (.int .u64 yl) := cell_of_row _ _ 1 _ _ _ D4.out.by'
  have y2 : w4.cell? ⟨w.heap.size + 1, 2, none⟩ = some (.int .i32 ye) := cell_of_row _ _ 2 _ _ _ D4.out.by'
  have y3 : w4.cell? ⟨w.heap.size + 1, 3, none⟩ = some (.bool yn) := cell_of_row _ _ 3 _ _ _ D4.out.by'
  have x0 : w4.cell? ⟨w.heap.size, 0, none⟩ = some (.int .u64 xh) := cell_of_row _ _ 0 _ _ _ D4.out.bx
  have x1 : w4.cell? ⟨w.heap.size, 1, none⟩ = some (.int .u64 xl) := cell_of_row _ _ 1 _ _ _ D4.out.bx
  have x2 : w4.cell? ⟨w.heap.size, 2, none⟩ = some (.int .i32 xe) := cell_of_row _ _ 2 _ _ _ D4.out.bx
  have x3 : w4.cell? ⟨w.heap.size, 3, none⟩ = some (.bool xn) := cell_of_row _ _ 3 _ _ _ D4.out.bx
  obtain ⟨a0, ha0⟩ : ∃ n, n = xh / 10 ^ 9 := ⟨_, rfl⟩
  have A0 : a0 < 10 ^ 9 := by omega
  have za0 : (xh : Int) / 1000000000 = (a0 : Int) := by omega
  obtain ⟨a1, ha1⟩ : ∃ n, n = xh % 10 ^ 9 := ⟨_, rfl⟩
  have A1 : a1 < 10 ^ 9 := by omega
  have za1 : (xh : Int) % 1000000000 = (a1 : Int) := by omega
  obtain ⟨a2, ha2⟩ : ∃ n, n = xl / 10 ^ 9 := ⟨_, rfl⟩
  have A2 : a2 < 10 ^ 9 := by omega
  have za2 : (xl : Int) / 1000000000 = (a2 : Int) := by omega
  obtain ⟨a3, ha3⟩ : ∃ n, n = xl % 10 ^ 9 := ⟨_, rfl⟩
  have A3 : a3 < 10 ^ 9 := by omega
  have za3 : (xl : Int) % 1000000000 = (a3 : Int) := by omega
  obtain ⟨b0, hb0⟩ : ∃ n, n = yh / 10 ^ 9 := ⟨_, rfl⟩
  have B0 : b0 < 10 ^ 9 := by omega
  have zb0 : (yh : Int) / 1000000000 = (b0 : Int) := by omega
  obtain ⟨b1, hb1⟩ : ∃ n, n = yh % 10 ^ 9 := ⟨_, rfl⟩
  have B1 : b1 < 10 ^ 9 := by omega
  have zb1 : (yh : Int) % 1000000000 = (b1 : Int) := by omega
  obtain ⟨b2, hb2⟩ : ∃ n, n = yl / 10 ^ 9 := ⟨_, rfl⟩
  have B2 : b2 < 10 ^ 9 := by omega
  have zb2 : (yl : Int) / 1000000000 = (b2 : Int) := by omega
  obtain ⟨b3, hb3⟩ : ∃ n, n = yl % 10 ^ 9 := ⟨_, rfl⟩
  have B3 : b3 < 10 ^ 9 := by omega
  have zb3 : (yl : Int) % 1000000000 = (b3 : Int) := by omega
  have LX : Aside (X = a0 * 10 ^ 27 + a1 * 10 ^ 18 + a2 * 10 ^ 9 + a3 ∧ Y = b0 * 10 ^ 27 + b1 * 10 ^ 18 + b2 * 10 ^ 9 + b3) := ⟨limb_split FF.out.1.worth ha0 ha1 ha2 ha3, limb_split FF.out.2.worth hb0 hb1 hb2 hb3⟩
  simp only [za0, za1, za2, za3, zb0, zb1, zb2, zb3]
  clear ha0 za0 ha1 za1 ha2 za2 ha3 za3 hb0 zb0 hb1 zb1 hb2 zb2 hb3 zb3
  obtain ⟨p00, e00, r00, b00⟩ := prod_lt A0 B0
  obtain ⟨p01, e01, r01, b01⟩ := prod_lt A0 B1
  obtain ⟨p02, e02, r02, b02⟩ := prod_lt A0 B2
  obtain ⟨p03, e03, r03, b03⟩ := prod_lt A0 B3
  obtain ⟨p10, e10, r10, b10⟩ := prod_lt A1 B0
  obtain ⟨p11, e11, r11, b11⟩ := prod_lt A1 B1
  obtain ⟨p12, e12, r12, b12⟩ := prod_lt A1 B2
  obtain ⟨p13, e13, r13, b13⟩ := prod_lt A1 B3
  obtain ⟨p20, e20, r20, b20⟩ := prod_lt A2 B0
  obtain ⟨p21, e21, r21, b21⟩ := prod_lt A2 B1
  obtain ⟨p22, e22, r22, b22⟩ := prod_lt A2 B2
  obtain ⟨p23, e23, r23, b23⟩ := prod_lt A2 B3
  obtain ⟨p30, e30, r30, b30⟩ := prod_lt A3 B0
  obtain ⟨p31, e31, r31, b31⟩ := prod_lt A3 B1
  obtain ⟨p32, e32, r32, b32⟩ := prod_lt A3 B2
  obtain ⟨p33, e33, r33, b33⟩ := prod_lt A3 B3
  obtain ⟨c5, hc5⟩ : ∃ n, n = p23 + p32 + p33 / 1000000000 := ⟨_, rfl⟩
  have zc5 : (p23 : Int) + (p32 : Int) + (p33 : Int) / 1000000000 = (c5 : Int) := by omega
  have bc5 : (c5 : Int) < 2100000000000000000 := by omega
  obtain ⟨c4, hc4⟩ : ∃ n, n = p13 + p22 + p31 + c5 / 1000000000 := ⟨_, rfl⟩
  have zc4 : (p13 : Int) + (p22 : Int) + (p31 : Int) + (c5 : Int) / 1000000000 = (c4 : Int) := by omega
  have bc4 : (c4 : Int) < 3100000000000000000 := by omega
  obtain ⟨c3, hc3⟩ : ∃ n, n = p03 + p12 + p21 + p30 + c4 / 1000000000 := ⟨_, rfl⟩
  have zc3 : (p03 : Int) + (p12 : Int) + (p21 : Int) + (p30 : Int) + (c4 : Int) / 1000000000 = (c3 : Int) := by omega
  have bc3 : (c3 : Int) < 4100000000000000000 := by omega
  obtain ⟨c2, hc2⟩ : ∃ n, n = p02 + p11 + p20 + c3 / 1000000000 := ⟨_, rfl⟩
  have zc2 : (p02 : Int) + (p11 : Int) + (p20 : Int) + (c3 : Int) / 1000000000 = (c2 : Int) := by omega
  have bc2 : (c2 : Int) < 3100000000000000000 := by omega
  obtain ⟨c1, hc1⟩ : ∃ n, n = p01 + p10 + c2 / 1000000000 := ⟨_, rfl⟩
  have zc1 : (p01 : Int) + (p10 : Int) + (c2 : Int) / 1000000000 = (c1 : Int) := by omega
  have bc1 : (c1 : Int) < 2100000000000000000 := by omega
  obtain ⟨c0, hc0⟩ : ∃ n, n = p00 + c1 / 1000000000 := ⟨_, rfl⟩
  have zc0 : (p00 : Int) + (c1 : Int) / 1000000000 = (c0 : Int) := by omega
  have bc0 : (c0 : Int) < 1100000000000000000 := by omega
  have QQ : Aside (∃ q, q = P / 10 ^ 27 ∧ c3 % 10 ^ 9 = q % 10 ^ 9 ∧ c2 % 10 ^ 9 = q / 10 ^ 9 % 10 ^ 9 ∧ c1 % 10 ^ 9 = q / 10 ^ 18 % 10 ^ 9 ∧ c0 = q / 10 ^ 27) :=
    limbs a0 a1 a2 a3 b0 b1 b2 b3 P (by rw [PP.out, ← LX.out.1, ← LX.out.2]) p33 c5 c4 c3 c2 c1 c0 e33 (by rw [← e23, ← e32]; exact hc5) (by rw [← e13, ← e22, ← e31]; exact hc4) (by rw [← e03, ← e12, ← e21, ← e30]; exact hc3) (by rw [← e02, ← e11, ← e20]; exact hc2) (by rw [← e01, ← e10]; exact hc1) (by rw [← e00]; exact hc0)
  clear e00 e01 e02 e03 e10 e11 e12 e13 e20 e21 e22 e23 e30 e31 e32 e33
  clear hc5 hc4 hc3 hc2 hc1 hc0
  have bc00 : (c0 : Int) < 1000000000000000000 := by
    obtain ⟨q, hq, _, _, _, h0⟩ := QQ.out
    have h1 := (P_bounds FF.out.1 FF.out.2 PP.out).2
    omega
  clear bc0
  clear xz1 xz2 yz1 yz2 A0 A1 A2 A3 B0 B1 B2 B3
  obtain ⟨m1, hm1⟩ : ∃ n, n = c1 % 1000000000 := ⟨_, rfl⟩
  obtain ⟨m2, hm2⟩ : ∃ n, n = c2 % 1000000000 := ⟨_, rfl⟩
  obtain ⟨m3, hm3⟩ : ∃ n, n = c3 % 1000000000 := ⟨_, rfl⟩
  have zm1 : (c1 : Int) % 1000000000 = (m1 : Int) := by omega
  have zm2 : (c2 : Int) % 1000000000 = (m2 : Int) := by omega
  have zm3 : (c3 : Int) % 1000000000 = (m3 : Int) := by omega
  have MMM : Aside (m1 = c1 % 10 ^ 9 ∧ m2 = c2 % 10 ^ 9 ∧ m3 = c3 % 10 ^ 9) := ⟨by omega, by omega, by omega⟩
  have bm1 : (m1 : Int) < 1000000000 := by omega
  have bm2 : (m2 : Int) < 1000000000 := by omega
  have bm3 : (m3 : Int) < 1000000000 := by omega
  clear hm1 hm2 hm3
  go_upto_region 13 with fail
  simp only [zm1, zm2, zm3]
  clear zm1 zm2 zm3
  clear zc5 zc4 zc3 zc2 zc1 zc0 bc5 bc4 bc3 bc2 bc1
  clear r00 r01 r02 r03 r10 r11 r12 r13 r20 r21 r22 r23 r30 r31 r32 r33
  clear b00 b01 b02 b03 b10 b11 b12 b13 b20 b21 b22 b23 b30 b31 b32 b33
  by_cases hlt : (c0 : Int) < 100000000000000000
  · obtain ⟨Q, hQ1, hQ2, hQ3, hQ4⟩ : ∃ Q, Q < 10 ^ 36 ∧ c0 * 10 + m1 / 10 ^ 8 = Q / 10 ^ 18 ∧ (m1 % 10 ^ 8 * 10 ^ 9 + m2) * 10 + m3 / 10 ^ 8 = Q % 10 ^ 18 ∧ ∀ s, model P s = rnd Q (decide (500000000 ≤ m3 % 10 ^ 8 * 10)) (wrap32 (s + 35)) wrap32 := by
      obtain ⟨q, hq, h3, h2, h1, h0⟩ := QQ.out
      obtain ⟨k1, k2, k3⟩ := MMM.out
      exact lo_case hq (k3.trans h3) (k2.trans h2) (k1.trans h1) h0 (P_bounds FF.out.1 FF.out.2 PP.out).2 (by omega)
    obtain ⟨H, hH⟩ : ∃ H, H = c0 * 10 + m1 / 10 ^ 8 := ⟨_, rfl⟩
    obtain ⟨L, hL⟩ : ∃ L, L = (m1 % 10 ^ 8 * 10 ^ 9 + m2) * 10 + m3 / 10 ^ 8 := ⟨_, rfl⟩
    obtain ⟨t3, h3⟩ : ∃ t, t = m3 % 10 ^ 8 * 10 := ⟨_, rfl⟩
    have zH : (c0 : Int) * 10 + (m1 : Int) / 100000000 = (H : Int) := by omega
    have zL : ((m1 : Int) % 100000000 * 1000000000 + (m2 : Int)) * 10 + (m3 : Int) / 100000000 = (L : Int) := by omega
    have zt : (m3 : Int) % 100000000 * 10 = (t3 : Int) := by omega
    rw [← hH] at hQ2
    rw [← hL] at hQ3
    rw [← h3] at hQ4
    have HQ : Aside (Q < 10 ^ 36 ∧ H = Q / 10 ^ 18 ∧ L = Q % 10 ^ 18 ∧ ∀ s, model P s = rnd Q (decide (500000000 ≤ t3)) (wrap32 (s + 35)) wrap32) := ⟨hQ1, hQ2, hQ3, hQ4⟩
    clear hQ1 hQ2 hQ3 hQ4 hH hL h3
    have bt : (t3 : Int) < 1000000000 := by omega
    go_upto_region 19 with fail
    simp only [wrap_back]
    clear zH zL zt
    go_wp2_with fail
    refine (round26 Q H L (wrap32 (wrap32 (xe + ye) + 35)) (xn != yn) (decide ((500000000 : Int) ≤ (t3 : Int))) HQ.out.1 HQ.out.2.1 HQ.out.2.2.1 _).mono ?_
    rintro r w5 ⟨rfl, hb⟩
    have D5 : Aside (DW w w5 #[.int .u64 xh, .int .u64 xl, .int .i32 xe, .bool xn] #[.int .u64 yh, .int .u64 yl, .int .i32 ye, .bool yn]) := (D4.out.later ((Below.refl _ _).alloc (Nat.le_refl _) _)).later hb
    clear hb
    have HM : Aside (rnd Q (decide ((500000000 : Int) ≤ (t3 : Int))) ((wrap32 (wrap32 (xe + ye) + 35))) wrap32 = model P (wrap32 (xe + ye))) := by
      show _ = _
      rw [HQ.out.2.2.2 (wrap32 (xe + ye))]
      rw [show decide ((500000000 : Int) ≤ (t3 : Int)) = decide (500000000 ≤ t3) from decide_eq_decide.2 (by omega)]
    rw [HM.out]
    obtain ⟨ra, hra⟩ : ∃ n, n = (model P (wrap32 (xe + ye))).1 / 10 ^ 18 := ⟨_, rfl⟩
    obtain ⟨rb, hrb⟩ : ∃ n, n = (model P (wrap32 (xe + ye))).1 % 10 ^ 18 := ⟨_, rfl⟩
    obtain ⟨rc, hrc⟩ : ∃ n, n = (model P (wrap32 (xe + ye))).2 := ⟨_, rfl⟩
    rw [← hra, ← hrb, ← hrc]
    have RR : Aside (ra = (model P (wrap32 (xe + ye))).1 / 10 ^ 18 ∧ rb = (model P (wrap32 (xe + ye))).1 % 10 ^ 18 ∧ rc = (model P (wrap32 (xe + ye))).2) := ⟨hra, hrb, hrc⟩
    clear hra hrb hrc HM HQ
    go_wp2_with (refine wpList_store32 rfl _ _ rfl (w.heap.size + 1 + 1) ra rb rc (xn != yn) rfl rfl _ rfl D5.out.bz ?_)
    refine bodyPost_ret (res32 rfl _ _ (w.heap.size + 1 + 1) #[.int .u64 ra, .int .u64 rb, .int .i32 rc, .bool (xn != yn)] rfl (setRow_heap _ _ _ _ _ _ D5.out.bz) rfl) rfl ?_
    refine ⟨?_, below_setRow D5.out.bel (by omega) _⟩
    rw [← RR.out.1, ← RR.out.2.1, ← RR.out.2.2]
    rfl
  · obtain ⟨Q, hQ1, hQ2, hQ3, hQ4⟩ : ∃ Q, Q < 10 ^ 36 ∧ c0 = Q / 10 ^ 18 ∧ m1 * 10 ^ 9 + m2 = Q % 10 ^ 18 ∧ ∀ s, model P s = rnd Q (decide (500000000 ≤ m3)) (wrap32 (s + 36)) wrap32 := by
      obtain ⟨q, hq, h3, h2, h1, h0⟩ := QQ.out
      obtain ⟨k1, k2, k3⟩ := MMM.out
      exact hi_case hq (k3.trans h3) (k2.trans h2) (k1.trans h1) h0 (P_bounds FF.out.1 FF.out.2 PP.out).2 (by omega)
    obtain ⟨L, hL⟩ : ∃ L, L = m1 * 10 ^ 9 + m2 := ⟨_, rfl⟩
    have zL : (m1 : Int) * 1000000000 + (m2 : Int) = (L : Int) := by omega
    rw [← hL] at hQ3
    have HQ : Aside (Q < 10 ^ 36 ∧ c0 = Q / 10 ^ 18 ∧ L = Q % 10 ^ 18 ∧ ∀ s, model P s = rnd Q (decide (500000000 ≤ m3)) (wrap32 (s + 36)) wrap32) := ⟨hQ1, hQ2, hQ3, hQ4⟩
    clear hQ1 hQ2 hQ3 hQ4 hL
    go_upto_region 19 with fail
    clear zL
    go_wp2_with fail
    refine (round26 Q c0 L (wrap32 (wrap32 (xe + ye) + 36)) (xn != yn) (decide ((500000000 : Int) ≤ (m3 : Int))) HQ.out.1 HQ.out.2.1 HQ.out.2.2.1 _).mono ?_
    rintro r w5 ⟨rfl, hb⟩
    have D5 : Aside (DW w w5 #[.int .u64 xh, .int .u64 xl, .int .i32 xe, .bool xn] #[.int .u64 yh, .int .u64 yl, .int .i32 ye, .bool yn]) := (D4.out.later ((Below.refl _ _).alloc (Nat.le_refl _) _)).later hb
    clear hb
    have HM : Aside (rnd Q (decide ((500000000 : Int) ≤ (m3 : Int))) ((wrap32 (wrap32 (xe + ye) + 36))) wrap32 = model P (wrap32 (xe + ye))) := by
      show _ = _
      rw [HQ.out.2.2.2 (wrap32 (xe + ye))]
      rw [show decide ((500000000 : Int) ≤ (m3 : Int)) = decide (500000000 ≤ m3) from decide_eq_decide.2 (by omega)]
    rw [HM.out]
    obtain ⟨ra, hra⟩ : ∃ n, n = (model P (wrap32 (xe + ye))).1 / 10 ^ 18 := ⟨_, rfl⟩
    obtain ⟨rb, hrb⟩ : ∃ n, n = (model P (wrap32 (xe + ye))).1 % 10 ^ 18 := ⟨_, rfl⟩
    obtain ⟨rc, hrc⟩ : ∃ n, n = (model P (wrap32 (xe + ye))).2 := ⟨_, rfl⟩
    rw [← hra, ← hrb, ← hrc]
    have RR : Aside (ra = (model P (wrap32 (xe + ye))).1 / 10 ^ 18 ∧ rb = (model P (wrap32 (xe + ye))).1 % 10 ^ 18 ∧ rc = (model P (wrap32 (xe + ye))).2) := ⟨hra, hrb, hrc⟩
    clear hra hrb hrc HM HQ
    go_wp2_with (refine wpList_store32 rfl _ _ rfl (w.heap.size + 1 + 1) ra rb rc (xn != yn) rfl rfl _ rfl D5.out.bz ?_)
    refine bodyPost_ret (res32 rfl _ _ (w.heap.size + 1 + 1) #[.int .u64 ra, .int .u64 rb, .int .i32 rc, .bool (xn != yn)] rfl (setRow_heap _ _ _ _ _ _ D5.out.bz) rfl) rfl ?_
    refine ⟨?_, below_setRow D5.out.bel (by omega) _⟩
    rw [← RR.out.1, ← RR.out.2.1, ← RR.out.2.2]
    rfl
end Go.Proofs.Qxb6603993a
