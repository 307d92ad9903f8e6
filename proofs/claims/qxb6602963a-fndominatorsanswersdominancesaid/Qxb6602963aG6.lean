import Derived.Test.Qxb6602963aG5
import Derived.Test.Qxb6602963aKid
import Derived.Laws.CopyOwn
import Derived.Laws.ResultCell
namespace Go.Proofs.Qxb6602963a
open Go.RowKit
set_option linter.unusedVariables false

theorem info46 : (Try.prog.info? 46).map (·.size) = some 2 := by kernel_rfl

/-- numberTree's answer -/
def NumPost (n m : Nat) (V d : Nat → Nat) (w : World) (e : Ending) (w' : World) : Prop :=
  ∃ bp bq pre post preV postV, e = .returned (.agg #[.slice (some ⟨bp, 0, none⟩) n n, .slice (some ⟨bq, 0, none⟩) n n]) ∧ w.heap.size ≤ bp ∧ w.heap.size ≤ bq ∧ Arr w' bp n preV ∧ Arr w' bq n postV ∧ Nums m d pre post ∧
    Laid n m V pre preV ∧ Laid n m V post postV ∧ Below w.heap.size w w'

/-- the cells of a stack, the top last -/
def stV (st : List Nat) : List Value := st.reverse.map fun x : Nat => Value.int .i32 (x : Int)

theorem stV_cons (k : Nat) (st : List Nat) : stV (k :: st) = stV st ++ [.int .i32 (k : Int)] := by simp [stV]
theorem stV_len (st : List Nat) : (stV st).length = st.length := by simp [stV]

theorem wayN_len {m : Nat} {d : Nat → Nat} (hd : ∀ i, 0 < i → i < m → d i < i) : ∀ (r : List Nat) (j : Nat), j < m → WayN d (j :: r) → r.length ≤ j := by
  intro r
  induction r with
  | nil => intro j _ _; simp
  | cons k r ih =>
    intro j hj hw
    obtain ⟨h0, h1, h2⟩ := hw
    have := hd j h0 hj
    have := ih k (by omega) h2
    simp only [List.length_cons]
    omega

theorem owns_len {w : World} {base k : Nat} {v : Value} {xs : List Value} (h : w.ownsRow base 21 1 v k xs) : k ≤ 9223372036854775807 := by
  rcases h.2 with ⟨_, h0⟩ | ⟨g, cap, cur, rfl, hb, hg, hle, hml, hcs, htk⟩
  · omega
  · simp only [maxLen] at hml; omega

theorem cell_one_new (w : World) (x : Value) (t : TypeId) : ∀ j u, [x][j]? = some u → (w.alloc (.cells #[x] t)).cell? ((⟨w.heap.size, 0, none⟩ : Addr).add j) = some u := by
  intro j u hj
  match j, hj with
  | 0, hj => simp at hj; subst hj; simp [Addr.add]
  | j + 1, hj => simp at hj

/-- the top is taken off an own row -/
theorem owns_pop {w : World} {base n : Nat} {g cap : Nat} {xs ys : List Value} (h : w.ownsRow base 21 1 (.slice (some ⟨g, 0, none⟩) n cap) n xs) (k : Nat) (hk : k ≤ n) (hy : ys = xs.take k) : w.ownsRow base 21 1 (.slice (some ⟨g, 0, none⟩) k cap) k ys := by
  obtain ⟨h1, h2⟩ := h
  rcases h2 with ⟨e, _⟩ | ⟨g', cap', cur, e, hb, hg, hle, hml, hcs, htk⟩
  · cases e
  · cases e
    refine ⟨by rw [hy]; simp; omega, .inr ⟨g, cap, cur, rfl, hb, hg, by omega, hml, hcs, ?_⟩⟩
    rw [hy, ← htk, List.take_take]
    congr 1
    omega

def pick3 (A B C : Obj) : Nat → Obj
  | 0 => A
  | 1 => B
  | _ => C

theorem three {wr W : World} {A B C : Obj} (hW : W = (((wr.alloc A).alloc B).alloc C).drew) : W.heap.size = wr.heap.size + 3 ∧ Below wr.heap.size wr W ∧ ∀ i, i < 3 → W.heap[wr.heap.size + i]? = some (pick3 A B C i) := by
  subst hW
  refine ⟨by simp, ((((Below.refl _ _).alloc (Nat.le_refl _) _).alloc (by simp) _).alloc (by simp <;> omega) _).drew, fun i hi => ?_⟩
  have h1 : (wr.alloc A).heap[wr.heap.size]? = some A := heap_alloc_new _ _
  have h2 : ((wr.alloc A).alloc B).heap[wr.heap.size + 1]? = some B := by have := heap_alloc_new (wr.alloc A) B; simpa using this
  have h3 : (((wr.alloc A).alloc B).alloc C).heap[wr.heap.size + 2]? = some C := by have := heap_alloc_new ((wr.alloc A).alloc B) C; simpa using this
  have hb1 := ((Below.refl (wr.heap.size + 1) (wr.alloc A)).alloc (by simp) B).alloc (by simp) C
  have hb2 := (Below.refl (wr.heap.size + 2) ((wr.alloc A).alloc B)).alloc (by simp) C
  have : i = 0 ∨ i = 1 ∨ i = 2 := by omega
  rcases this with rfl | rfl | rfl
  · exact (hb1.block _ (by omega)).trans h1
  · exact (hb2.block _ (by omega)).trans h2
  · exact h3

/-- three blocks were laid, in whatever order: two rows of n, and the pair of them -/
def Laid3 (h n : Nat) (wr : World) (s12 : Value) (wc : World) : Prop :=
  ∃ p1 p2 S, s12 = .pointer (some ⟨S, 0, none⟩) ∧ p1 ≠ p2 ∧ p1 ≠ S ∧ p2 ≠ S ∧ h ≤ p1 ∧ h ≤ p2 ∧ h ≤ S ∧ p1 < h + 3 ∧ p2 < h + 3 ∧ S < h + 3 ∧ wc.heap.size = h + 3 ∧ Below wr.heap.size wr wc ∧ Arr wc p1 n (fun _ => 0) ∧ Arr wc p2 n (fun _ => 0) ∧ wc.heap[S]? = some (.cells #[.slice (some ⟨p1, 0, none⟩) n n, .slice (some ⟨p2, 0, none⟩) n n] 46 (0, 0))

theorem arr_mk {W : World} {b n : Nat} (h : W.heap[b]? = some (.cells (madeCells #[.int .i32 0] n) 21 (0, 0))) : Arr W b n (fun _ => 0) := by
  obtain ⟨C, t, h1, h2, h3⟩ := Arr.made (default : World) n
  have e : (((default : World).alloc (.cells (madeCells #[.int .i32 0] n) 21)).heap[(default : World).heap.size]?) = some (.cells (madeCells #[.int .i32 0] n) 21 (0, 0)) := heap_alloc_new _ _
  rw [e] at h1
  cases h1
  exact ⟨_, _, h, h2, h3⟩

theorem laid3 {wr W : World} {A B C : Obj} {n S : Nat} (hW : W = (((wr.alloc A).alloc B).alloc C).drew) (i1 i2 i3 : Nat) (hp : pick3 A B C i1 = .cells (madeCells #[.int .i32 0] n) 21 (0, 0)) (hq : pick3 A B C i2 = .cells (madeCells #[.int .i32 0] n) 21 (0, 0)) (hS : S = wr.heap.size + i3)
    (hs : pick3 A B C i3 = .cells #[.slice (some ⟨wr.heap.size + i1, 0, none⟩) n n, .slice (some ⟨wr.heap.size + i2, 0, none⟩) n n] 46 (0, 0)) (d : i1 < 3 ∧ i2 < 3 ∧ i3 < 3 ∧ i1 ≠ i2 ∧ i1 ≠ i3 ∧ i2 ≠ i3) : Laid3 wr.heap.size n wr (.pointer (some ⟨S, 0, none⟩)) W := by
  obtain ⟨e1, e2, e3⟩ := three hW
  obtain ⟨d1, d2, d3, d4, d5, d6⟩ := d
  exact ⟨wr.heap.size + i1, wr.heap.size + i2, S, rfl, by omega, by omega, by omega, by omega, by omega, by omega, by omega, by omega, by omega, e1, e2, arr_mk ((e3 i1 d1).trans (congrArg some hp)), arr_mk ((e3 i2 d2).trans (congrArg some hq)), by rw [hS]; exact (e3 i3 d3).trans (congrArg some hs)⟩

/-- the blocks are apart -/
structure Ds (H k1 k2 p1 p2 S : Nat) : Prop where
  k12 : k1 ≠ k2
  p12 : p1 ≠ p2
  p1S : p1 ≠ S
  p2S : p2 ≠ S
  k1l : H + 1 ≤ k1
  k2l : H + 1 ≤ k2
  k1h : k1 < H + 3
  k2h : k2 < H + 3
  p1l : H + 3 ≤ p1
  p2l : H + 3 ≤ p2
  Sl : H + 3 ≤ S
  p1h : p1 < H + 6
  p2h : p2 < H + 6
  Sh : S < H + 6

/-- numberTree's memory -/
structure NM (w wr : World) (k1 k2 p1 p2 S n m : Nat) (kf kn pv qv : Nat → Int) : Prop where
  bel : Below w.heap.size w wr
  res : wr.heap[w.heap.size]? = some (.cells #[.slice none 0 0, .slice none 0 0] 46 (0, 0))
  a1 : Arr wr k1 m kf
  a2 : Arr wr k2 m kn
  a3 : Arr wr p1 n pv
  a4 : Arr wr p2 n qv
  a5 : wr.heap[S]? = some (.cells #[.slice (some ⟨p1, 0, none⟩) n n, .slice (some ⟨p2, 0, none⟩) n n] 46 (0, 0))
  sz : w.heap.size + 6 ≤ wr.heap.size

section
variable {w wr : World} {k1 k2 p1 p2 S n m : Nat} {kf kn pv qv : Nat → Int}
theorem NM.set1 (h : NM w wr k1 k2 p1 p2 S n m kf kn pv qv) (D : Ds w.heap.size k1 k2 p1 p2 S) (i : Nat) (v : Int) : NM w (wr.setCell ⟨k1, i, none⟩ (.int .i32 v)) k1 k2 p1 p2 S n m (updN kf i v) kn pv qv :=
  have d := D
  ⟨h.bel.setCell (by show _ ≤ k1; have := D.k1l; omega) _, by rw [Below.heap_setCell _ _ _ _ (by show _ ≠ k1; have := D.k1l; omega)]; exact h.res, h.a1.upd i v, h.a2.other (by show k2 ≠ k1; exact Ne.symm D.k12) _, h.a3.other (by show p1 ≠ k1; have := D.k1h; have := D.p1l; omega) _, h.a4.other (by show p2 ≠ k1; have := D.k1h; have := D.p2l; omega) _, by rw [Below.heap_setCell _ _ _ _ (by show S ≠ k1; have := D.k1h; have := D.Sl; omega)]; exact h.a5, by simpa using h.sz⟩
theorem NM.set3 (h : NM w wr k1 k2 p1 p2 S n m kf kn pv qv) (D : Ds w.heap.size k1 k2 p1 p2 S) (i : Nat) (v : Int) : NM w (wr.setCell ⟨p1, i, none⟩ (.int .i32 v)) k1 k2 p1 p2 S n m kf kn (updN pv i v) qv :=
  ⟨h.bel.setCell (by show _ ≤ p1; have := D.p1l; omega) _, by rw [Below.heap_setCell _ _ _ _ (by show _ ≠ p1; have := D.p1l; omega)]; exact h.res, h.a1.other (by show k1 ≠ p1; have := D.k1h; have := D.p1l; omega) _, h.a2.other (by show k2 ≠ p1; have := D.k2h; have := D.p1l; omega) _, h.a3.upd i v, h.a4.other (by show p2 ≠ p1; exact Ne.symm D.p12) _, by rw [Below.heap_setCell _ _ _ _ (by show S ≠ p1; exact Ne.symm D.p1S)]; exact h.a5, by simpa using h.sz⟩
theorem NM.set4 (h : NM w wr k1 k2 p1 p2 S n m kf kn pv qv) (D : Ds w.heap.size k1 k2 p1 p2 S) (i : Nat) (v : Int) : NM w (wr.setCell ⟨p2, i, none⟩ (.int .i32 v)) k1 k2 p1 p2 S n m kf kn pv (updN qv i v) :=
  ⟨h.bel.setCell (by show _ ≤ p2; have := D.p2l; omega) _, by rw [Below.heap_setCell _ _ _ _ (by show _ ≠ p2; have := D.p2l; omega)]; exact h.res, h.a1.other (by show k1 ≠ p2; have := D.k1h; have := D.p2l; omega) _, h.a2.other (by show k2 ≠ p2; have := D.k2h; have := D.p2l; omega) _, h.a3.other (by show p1 ≠ p2; exact D.p12) _, h.a4.upd i v, by rw [Below.heap_setCell _ _ _ _ (by show S ≠ p2; exact Ne.symm D.p2S)]; exact h.a5, by simpa using h.sz⟩
theorem NM.drew (h : NM w wr k1 k2 p1 p2 S n m kf kn pv qv) : NM w wr.drew k1 k2 p1 p2 S n m kf kn pv qv := ⟨h.bel.drew, h.res, h.a1, h.a2, h.a3, h.a4, h.a5, h.sz⟩
/-- what turns no block below the sixth -/
theorem NM.later (h : NM w wr k1 k2 p1 p2 S n m kf kn pv qv) (D : Ds w.heap.size k1 k2 p1 p2 S) {w1 : World} (k : Below (w.heap.size + 6) wr w1) : NM w w1 k1 k2 p1 p2 S n m kf kn pv qv :=
  ⟨h.bel.trans (k.mono (by omega)), (k.block _ (by omega)).trans h.res, h.a1.of_block (k.block _ (by have := D.k1h; omega)), h.a2.of_block (k.block _ (by have := D.k2h; omega)), h.a3.of_block (k.block _ D.p1h), h.a4.of_block (k.block _ D.p2h), (k.block _ D.Sh).trans h.a5, by have := k.size; have := h.sz; omega⟩
theorem NM.f0 (h : NM w wr k1 k2 p1 p2 S n m kf kn pv qv) : wr.cell? ⟨S, 0, none⟩ = some (.slice (some ⟨p1, 0, none⟩) n n) := by simp [World.cell?, h.a5]
theorem NM.f1 (h : NM w wr k1 k2 p1 p2 S n m kf kn pv qv) : wr.cell? ⟨S, 1, none⟩ = some (.slice (some ⟨p2, 0, none⟩) n n) := by simp [World.cell?, h.a5]
end

set_option maxHeartbeats 4000000 in
set_option maxRecDepth 100000 in
theorem num28 (bv cv bi ci n m : Nat) (V d : Nat → Nat) (w : World) (hm : 1 ≤ m) (hmn : m ≤ n) (hn2 : n ≤ 4096) (hV : ∀ i, i < m → V i < n) (inj : ∀ i j, i < m → j < m → V i = V j → i = j) (hd : ∀ i, 0 < i → i < m → d i < i) (h1 : Arr w bv m (fun i => (V i : Int))) (h2 : Arr w bi m (fun i => (d i : Int))) :
    Calls Try.prog 28 #[.int .i64 n, .slice (some ⟨bv, 0, none⟩) m cv, .slice (some ⟨bi, 0, none⟩) m ci] w fun e w' => NumPost n m V d w e w' := by
  have m1 := run_make_row' (P := Try.prog) 22 21 (.int .i32 0) _ Try.underlying22 Try.info21 rfl .i64 .i64 m (by omega) (by omega)
  have m2 := run_make_row' (P := Try.prog) 22 21 (.int .i32 0) _ Try.underlying22 Try.info21 rfl .i64 .i64 n (by omega) (by omega)
  have HI : Aside (Arr w bv m (fun i => (V i : Int)) ∧ Arr w bi m (fun i => (d i : Int)) ∧ (∀ i, i < m → V i < n) ∧ (∀ i j, i < m → j < m → V i = V j → i = j) ∧ (∀ i, 0 < i → i < m → d i < i)) := ⟨h1, h2, hV, inj, hd⟩
  clear h1 h2 hV inj hd
  go_enter Try.func28, Try.ntmps28
  go_upto_region 2 with fail
  go_cut [8, 9] from 18 (fun s8 s9 wc => ∃ k1 k2, s8 = .slice (some ⟨k1, 0, none⟩) m m ∧ s9 = .slice (some ⟨k2, 0, none⟩) m m ∧ k1 ≠ k2 ∧ w.heap.size + 1 ≤ k1 ∧ w.heap.size + 1 ≤ k2 ∧ k1 < w.heap.size + 3 ∧ k2 < w.heap.size + 3 ∧ wc.heap.size = w.heap.size + 3 ∧ Below w.heap.size w wc ∧ wc.heap[w.heap.size]? = some (.cells #[.slice none 0 0, .slice none 0 0] 46 (0, 0)) ∧ Arr wc k1 m (fun _ => 0) ∧ Arr wc k2 m (fun _ => 0))
  case first =>
    have hq : ∀ wc, wc = (((w.alloc (Obj.cells #[Value.slice none 0 0, Value.slice none 0 0] 46)).alloc (Obj.cells (madeCells #[Value.int IntKind.i32 0] m) 21)).alloc (Obj.cells (madeCells #[Value.int IntKind.i32 0] m) 21)).drew →
        wc.heap.size = w.heap.size + 3 ∧ Below w.heap.size w wc ∧ wc.heap[w.heap.size]? = some (.cells #[.slice none 0 0, .slice none 0 0] 46 (0, 0)) ∧ Arr wc (w.heap.size + 1) m (fun _ => 0) ∧ Arr wc (w.heap.size + 2) m (fun _ => 0) := fun wc e => by
      have a1 := Arr.made (w.alloc (Obj.cells #[Value.slice none 0 0, Value.slice none 0 0] 46)) m
      have a2 := Arr.made ((w.alloc (Obj.cells #[Value.slice none 0 0, Value.slice none 0 0] 46)).alloc (Obj.cells (madeCells #[Value.int IntKind.i32 0] m) 21)) m
      have a3 : (w.alloc (Obj.cells #[Value.slice none 0 0, Value.slice none 0 0] 46)).heap[w.heap.size]? = some (.cells #[.slice none 0 0, .slice none 0 0] 46 (0, 0)) := heap_alloc_new _ _
      subst e
      refine ⟨by simp, ((((Below.refl _ _).alloc (Nat.le_refl _) _).alloc (by simp <;> omega) _).alloc (by simp <;> omega) _).drew, ?_, ?_, ?_⟩
      · have hb := (((Below.refl (w.heap.size + 1) (w.alloc (Obj.cells #[Value.slice none 0 0, Value.slice none 0 0] 46))).alloc (by simp) (Obj.cells (madeCells #[Value.int IntKind.i32 0] m) 21)).alloc (by simp) (Obj.cells (madeCells #[Value.int IntKind.i32 0] m) 21)).drew
        exact (hb.block w.heap.size (by omega)).trans a3
      · have := a1.alloc (Obj.cells (madeCells #[Value.int IntKind.i32 0] m) 21)
        simpa using this.drew
      · simpa using a2.drew
    have HQ : Aside _ := hq
    clear hq
    go_region
    · go_wp2_with fail
      go_meet
      case rel =>
        obtain ⟨e1, e2, e3, e4, e5⟩ := HQ.out _ rfl
        exact ⟨w.heap.size + 1, w.heap.size + 2, rfl, rfl, by omega, by omega, by omega, by omega, by omega, e1, e2, e3, e4, e5⟩
    · go_wp2_with fail
      go_meet
      case rel =>
        obtain ⟨e1, e2, e3, e4, e5⟩ := HQ.out _ rfl
        exact ⟨w.heap.size + 2, w.heap.size + 1, rfl, rfl, by omega, by omega, by omega, by omega, by omega, e1, e2, e3, e5, e4⟩
  case rest =>
    obtain ⟨k1, k2, rfl, rfl, hk12, hk1, hk2, hk3, hk4, hsz, hbel, hres, r1, r2⟩ := hcut
    have inI : ∀ i, i < m → Int.toNat 0 = 0 := fun _ _ => rfl
    clear inI
    have A0 : Aside (Below w.heap.size w wc ∧ wc.heap[w.heap.size]? = some (.cells #[.slice none 0 0, .slice none 0 0] 46 (0, 0)) ∧ Arr wc k1 m (fun _ => 0) ∧ Arr wc k2 m (fun _ => 0) ∧ wc.heap.size = w.heap.size + 3) := ⟨hbel, hres, r1, r2, hsz⟩
    clear hbel hres r1 r2 hsz m1
    go_wp2
    obtain ⟨wo, hwo⟩ : ∃ wo : World, wo = wc := ⟨_, rfl⟩
    -- kidFirst: all -1
    go_loopg [25] m (fun g s25 wr => ∃ x : Nat, x ≤ m ∧ g = m - x ∧ s25 = .int .i64 x ∧ Below w.heap.size w wr ∧ wr.heap[w.heap.size]? = some (.cells #[.slice none 0 0, .slice none 0 0] 46 (0, 0)) ∧ Arr wr k1 m (fun i => if i < x then -1 else 0) ∧ Arr wr k2 m (fun _ => 0) ∧ wr.heap.size = w.heap.size + 3)
    case atStart => exact ⟨0, Nat.zero_le _, rfl, rfl, A0.out.1, A0.out.2.1, A0.out.2.2.1.congr fun i _ => by simp, A0.out.2.2.2.1, A0.out.2.2.2.2⟩
    case round =>
      clear hwo A0
      obtain ⟨x, hx, rfl, rfl, hbel, hres, r1, r2, hsz⟩ := hrel
      by_cases hlt : x < m
      · have g1 : wr.cell? ⟨k1, x, none⟩ = some (.int .i32 0) := by have := r1.cell hlt; rw [if_neg (by omega)] at this; exact this
        have g2 : wr.frozen? ⟨k1, x, none⟩ = false := r1.frozen _
        have A : Aside (Below w.heap.size w wr ∧ wr.heap[w.heap.size]? = some (.cells #[.slice none 0 0, .slice none 0 0] 46 (0, 0)) ∧ Arr wr k1 m (fun i => if i < x then -1 else 0) ∧ Arr wr k2 m (fun _ => 0) ∧ wr.heap.size = w.heap.size + 3) := ⟨hbel, hres, r1, r2, hsz⟩
        clear hbel hres r1 r2 hsz
        go_wp2
        go_roundg (m - (x + 1))
        case rel =>
          go_light
          refine ⟨x + 1, by omega, rfl, by go_num, A.out.1.setCell (by show _ ≤ k1; omega) _, ?_, ?_, A.out.2.2.2.1.other (by show k2 ≠ k1; omega) _, by simpa using A.out.2.2.2.2⟩
          · rw [Below.heap_setCell _ _ _ _ (by show _ ≠ k1; omega)]; exact A.out.2.1
          · refine (A.out.2.2.1.upd x (-1)).congr fun i _ => ?_
            by_cases e : i = x
            · subst e; rw [updN_same, if_pos (by omega)]
            · rw [updN_ne _ _ e]
              by_cases e2 : i < x
              · rw [if_pos e2, if_pos (by omega)]
              · rw [if_neg e2, if_neg (by omega)]
        case measure => go_light; omega
      · obtain rfl : x = m := by omega
        have A : Aside (Below w.heap.size w wr ∧ wr.heap[w.heap.size]? = some (.cells #[.slice none 0 0, .slice none 0 0] 46 (0, 0)) ∧ Arr wr k1 x (fun _ => -1) ∧ Arr wr k2 x (fun _ => 0) ∧ wr.heap.size = w.heap.size + 3) := ⟨hbel, hres, r1.congr fun i hi => by rw [if_pos hi], r2, hsz⟩
        clear hbel hres r1 r2 hsz
        go_wp2
        obtain ⟨wo2, hwo2⟩ : ∃ wo : World, wo = wr := ⟨_, rfl⟩
        -- the lists of the children
        go_loopg [11] (x - 1) (fun g s11 wr => ∃ (i : Nat) (kf kn : Nat → Int) (K : Nat → List Nat), i < x ∧ g = i + 0 ∧ s11 = .int .i32 i ∧ Below w.heap.size w wr ∧ wr.heap[w.heap.size]? = some (.cells #[.slice none 0 0, .slice none 0 0] 46 (0, 0)) ∧ Arr wr k1 x kf ∧ Arr wr k2 x kn ∧ wr.heap.size = w.heap.size + 3 ∧ Kids x d i kf kn K ∧ ∀ j, j < x → -1 ≤ kf j ∧ kf j < x)
        case atStart => exact ⟨x - 1, _, _, _, by omega, rfl, by go_num, A.out.1, A.out.2.1, A.out.2.2.1, A.out.2.2.2.1, A.out.2.2.2.2, Kids.start _ _ fun _ _ => rfl, fun j hj => by omega⟩
        case round =>
          clear hwo2 A
          obtain ⟨i, kf, kn, K, hi, hgi, rfl, hbel, hres, r1, r2, hsz, hK, hkb⟩ := hrel
          by_cases hi0 : 0 < i
          · obtain ⟨di, hdi⟩ : ∃ di, di = d i := ⟨_, rfl⟩
            have hdlt : di < i := by rw [hdi]; exact HI.out.2.2.2.2 i hi0 hi
            have hst := hK.step hi0 hi (by rw [← hdi]; omega)
            rw [← hdi] at hst
            obtain ⟨f, hf⟩ : ∃ f, f = kf di := ⟨_, rfl⟩
            rw [← hf] at hst
            have hfb : -1 ≤ f ∧ f < x := by rw [hf]; exact hkb di (by omega)
            have g1 : wr.cell? ⟨bi, i, none⟩ = some (.int .i32 (di : Int)) := by rw [hdi]; exact cell_later hbel (HI.out.2.1.cell hi)
            have g2 : wr.cell? ⟨k1, di, none⟩ = some (.int .i32 f) := by rw [hf]; exact r1.cell (by omega)
            have g3 : wr.frozen? ⟨k1, di, none⟩ = false := r1.frozen _
            have g4 : wr.cell? ⟨k2, i, none⟩ = some (.int .i32 (kn i)) := r2.cell hi
            have g5 : wr.frozen? ⟨k2, i, none⟩ = false := r2.frozen _
            have A : Aside (Below w.heap.size w wr ∧ wr.heap[w.heap.size]? = some (.cells #[.slice none 0 0, .slice none 0 0] 46 (0, 0)) ∧ Arr wr k1 x kf ∧ Arr wr k2 x kn ∧ wr.heap.size = w.heap.size + 3 ∧ Kids x d (i - 1) (updN kf di (i : Int)) (updN kn i f) (updN K di (i :: K di)) ∧ ∀ j, j < x → -1 ≤ updN kf di (i : Int) j ∧ updN kf di (i : Int) j < x) := ⟨hbel, hres, r1, r2, hsz, hst, fun j hj => by
              by_cases e : j = di
              · subst e; rw [updN_same]; omega
              · rw [updN_ne _ _ e]; exact hkb j hj⟩
            clear hbel hres r1 r2 hsz hst hK hkb hdi hf
            go_wp2
            go_region
            all_goals go_wp2
            go_roundg (i - 1)
            case rel =>
              go_light
              refine ⟨i - 1, updN kf di (i : Int), updN kn i f, _, by omega, by omega, by go_num, ((A.out.1.setCell (by show _ ≤ k2; omega) _).setCell (by show _ ≤ k1; omega) _).drew, ?_, ?_, ?_, by simpa using A.out.2.2.2.2.1, A.out.2.2.2.2.2.1, A.out.2.2.2.2.2.2⟩
              · show ((wr.setCell _ _).setCell _ _).heap[w.heap.size]? = _
                rw [Below.heap_setCell _ _ _ _ (by show _ ≠ k1; omega), Below.heap_setCell _ _ _ _ (by show _ ≠ k2; omega)]; exact A.out.2.1
              · exact ((A.out.2.2.1.other (by show k1 ≠ k2; omega) _).upd di _).drew
              · exact ((A.out.2.2.2.1.upd i _).other (by show k2 ≠ k1; omega) _).drew
            case measure => go_light; omega
          · obtain rfl : i = 0 := by omega
            have A : Aside (Below w.heap.size w wr ∧ wr.heap[w.heap.size]? = some (.cells #[.slice none 0 0, .slice none 0 0] 46 (0, 0)) ∧ Arr wr k1 x kf ∧ Arr wr k2 x kn ∧ wr.heap.size = w.heap.size + 3 ∧ Kids x d 0 kf kn K ∧ ∀ j, j < x → -1 ≤ kf j ∧ kf j < x) := ⟨hbel, hres, r1, r2, hsz, hK, hkb⟩
            clear hbel hres r1 r2 hsz hK hkb
            go_upto_region 12 with fail
            go_cut [12] from 18 (fun s12 wc => Laid3 wr.heap.size n wr s12 wc)
            case first =>
              go_region
              all_goals go_wp2_with fail
              all_goals go_meet
              all_goals go_light
              all_goals first
                | exact laid3 rfl 0 1 2 rfl rfl rfl rfl (by decide)
                | exact laid3 rfl 0 2 1 rfl rfl rfl rfl (by decide)
                | exact laid3 rfl 1 0 2 rfl rfl rfl rfl (by decide)
                | exact laid3 rfl 1 2 0 rfl rfl rfl rfl (by decide)
                | exact laid3 rfl 2 0 1 rfl rfl rfl rfl (by decide)
                | exact laid3 rfl 2 1 0 rfl rfl rfl rfl (by decide)
            case rest =>
              obtain ⟨p1, p2, S, rfl, hp12, hp1S, hp2S, hp1l, hp2l, hSl, hp1h, hp2h, hSh, hsz, hb2, r3, r4, r5⟩ := hcut
              have D : Ds w.heap.size k1 k2 p1 p2 S := by
                have e := A.out.2.2.2.2.1
                exact ⟨hk12, hp12, hp1S, hp2S, hk1, hk2, hk3, hk4, by omega, by omega, by omega, by omega, by omega, by omega⟩
              have M0 : Aside (NM w wc k1 k2 p1 p2 S n x kf kn (fun _ => 0) (fun _ => 0)) :=
                ⟨A.out.1.trans (hb2.mono A.out.1.size), (hb2.block _ (by have := A.out.2.2.2.2.1; omega)).trans A.out.2.1, A.out.2.2.1.below hb2, A.out.2.2.2.1.below hb2, r3, r4, r5, by have := A.out.2.2.2.2.1; omega⟩
              have HK : Aside (Kids x d 0 kf kn K ∧ (∀ j, j < x → -1 ≤ kf j ∧ kf j < x) ∧ Ds w.heap.size k1 k2 p1 p2 S ∧ wc.heap.size = w.heap.size + 6) := ⟨A.out.2.2.2.2.2.1, A.out.2.2.2.2.2.2, D, by have := A.out.2.2.2.2.1; omega⟩
              have hpd : p1 ≠ p2 := hp12
              have hbd : w.heap.size + 3 ≤ p1 ∧ w.heap.size + 3 ≤ p2 ∧ p1 < w.heap.size + 6 ∧ p2 < w.heap.size + 6 := ⟨D.p1l, D.p2l, D.p1h, D.p2h⟩
              clear A D r3 r4 r5 hb2 hsz hp12 hp1l hp2l hSl hp1h hp2h hSh m2
              go_wp2
              obtain ⟨wo3, hwo3⟩ : ∃ wo : World, wo = wc := ⟨_, rfl⟩
              go_loopg [62] n (fun g s62 wr => ∃ v : Nat, v ≤ n ∧ g = n - v ∧ s62 = .int .i64 v ∧ NM w wr k1 k2 p1 p2 S n x kf kn (fun i => if i < v then -1 else 0) (fun i => if i < v then -1 else 0) ∧ wr.heap.size = w.heap.size + 6)
              case atStart => exact ⟨0, Nat.zero_le _, rfl, rfl, M0.out, HK.out.2.2.2⟩
              case round =>
                clear hwo3 M0
                obtain ⟨v, hv, rfl, rfl, hM, hsz⟩ := hrel
                by_cases hlt : v < n
                · have g1 := hM.f0
                  have g2 := hM.f1
                  have g3 : wr.cell? ⟨p1, v, none⟩ = some (.int .i32 0) := by have := hM.a3.cell hlt; rw [if_neg (by omega)] at this; exact this
                  have g4 : wr.frozen? ⟨p1, v, none⟩ = false := hM.a3.frozen _
                  have g5 : wr.cell? ⟨p2, v, none⟩ = some (.int .i32 0) := by have := hM.a4.cell hlt; rw [if_neg (by omega)] at this; exact this
                  have g6 : wr.frozen? ⟨p2, v, none⟩ = false := hM.a4.frozen _
                  have A : Aside (NM w wr k1 k2 p1 p2 S n x kf kn (fun i => if i < v then -1 else 0) (fun i => if i < v then -1 else 0) ∧ wr.heap.size = w.heap.size + 6) := ⟨hM, hsz⟩
                  clear hM hsz
                  go_wp2
                  all_goals try go_region
                  all_goals go_wp2
                  go_roundg (n - (v + 1))
                  case rel =>
                    go_light
                    have hh := ((A.out.1.set3 HK.out.2.2.1 v (-1)).set4 HK.out.2.2.1 v (-1)).drew
                    have ef : updN (fun i => if i < v then (-1 : Int) else 0) v (-1) = fun i => if i < v + 1 then -1 else 0 := by
                      funext i
                      by_cases e : i = v
                      · subst e; rw [updN_same, if_pos (by omega)]
                      · rw [updN_ne _ _ e]
                        by_cases e2 : i < v
                        · rw [if_pos e2, if_pos (by omega)]
                        · rw [if_neg e2, if_neg (by omega)]
                    rw [ef] at hh
                    exact ⟨v + 1, by omega, rfl, by go_num, hh, by simpa using A.out.2⟩
                  case measure => go_light; omega
                · obtain rfl : v = n := by omega
                  obtain ⟨v0, hv0⟩ : ∃ v0, v0 = V 0 := ⟨_, rfl⟩
                  have hv0n : v0 < v := by rw [hv0]; exact HI.out.2.2.1 0 (by omega)
                  have hM1 : NM w (wr.alloc (.cells #[.int .i32 0] 21)) k1 k2 p1 p2 S v x kf kn (fun i => if i < v then -1 else 0) (fun i => if i < v then -1 else 0) := hM.later HK.out.2.2.1 ((Below.refl _ _).alloc (by omega) _)
                  have hown : (wr.alloc (.cells #[.int .i32 0] 21)).ownsRow (w.heap.size + 6) 21 1 (.slice (some ⟨w.heap.size + 6, 0, none⟩) 1 1) 1 (stV [0]) := ⟨rfl, .inr ⟨w.heap.size + 6, 1, #[.int .i32 0], rfl, Nat.le_refl _, by have := heap_alloc_new wr (.cells #[.int .i32 0] 21); rw [hsz] at this; exact this, Nat.le_refl _, by simp [maxLen], rfl, rfl⟩⟩
                  have g0 : wr.cell? ⟨bv, 0, none⟩ = some (.int .i32 (v0 : Int)) := by rw [hv0]; exact cell_later hM.bel (HI.out.1.cell (by omega))
                  have g1 := hM1.f0
                  have g3 : (wr.alloc (.cells #[.int .i32 0] 21)).cell? ⟨p1, v0, none⟩ = some (.int .i32 (-1)) := by have := hM1.a3.cell hv0n; rw [if_pos hv0n] at this; exact this
                  have g4 : (wr.alloc (.cells #[.int .i32 0] 21)).frozen? ⟨p1, v0, none⟩ = false := hM1.a3.frozen _
                  have g0' : (wr.alloc (.cells #[.int .i32 0] 21)).cell? ⟨bv, 0, none⟩ = some (.int .i32 (v0 : Int)) := by rw [hv0]; exact cell_later hM1.bel (HI.out.1.cell (by omega))
                  have A : Aside (NM w (wr.alloc (.cells #[.int .i32 0] 21)) k1 k2 p1 p2 S v x kf kn (fun i => if i < v then -1 else 0) (fun i => if i < v then -1 else 0) ∧ (wr.alloc (.cells #[.int .i32 0] 21)).ownsRow (w.heap.size + 6) 21 1 (.slice (some ⟨w.heap.size + 6, 0, none⟩) 1 1) 1 (stV [0]) ∧ v0 = V 0) := ⟨hM1, hown, hv0⟩
                  clear hM hM1 hown hv0
                  go_wp2
                  generalize wr.alloc (.cells #[.int .i32 0] 21) = wr at A g1 g3 g4 g0' ⊢
                  clear hsz g0
                  go_region
                  all_goals go_wp2
                  have hL1 : Laid v x V (updN (fun _ => -1) 0 0) (updN (fun i => if i < v then -1 else 0) v0 0) := by
                    have h0 : Laid v x V (fun _ => -1) (fun i => if i < v then -1 else 0) := ⟨fun i hi => if_pos (HI.out.2.2.1 i hi), fun u hu _ => if_pos hu⟩
                    rw [A.out.2.2]
                    exact h0.upd HI.out.2.2.2.1 (by omega) 0
                  have hL2 : Laid v x V (fun _ => -1) (fun i => if i < v then -1 else 0) := ⟨fun i hi => if_pos (HI.out.2.2.1 i hi), fun u hu _ => if_pos hu⟩
                  have hNt : Nt x d (updN (fun _ => -1) 0 0) (fun _ => -1) 0 K [0] := Nt.start (by omega) _ K HI.out.2.2.2.2 (fun p j => by rw [HK.out.1.mem]; constructor <;> (rintro ⟨h1, h2, h3⟩; exact ⟨by omega, by omega, h3⟩)) HK.out.1.nd
                  have A2 : Aside (NM w (wr.setCell ⟨p1, v0, none⟩ (.int .i32 0)).drew k1 k2 p1 p2 S v x kf kn (updN (fun i => if i < v then -1 else 0) v0 0) (fun i => if i < v then -1 else 0) ∧ (wr.setCell ⟨p1, v0, none⟩ (.int .i32 0)).drew.ownsRow (w.heap.size + 6) 21 1 (.slice (some ⟨w.heap.size + 6, 0, none⟩) 1 1) 1 (stV [0])) :=
                    ⟨(A.out.1.set3 HK.out.2.2.1 v0 0).drew, A.out.2.1.kept (row := some p1) ⟨rfl, rfl, rfl, by simp, fun k hk hne => Below.heap_setCell _ _ _ _ (fun e => hne (congrArg some e))⟩ (.inr (by simp [Value.ownBlock]; omega))⟩
                  have B : Aside (Laid v x V (updN (fun _ => -1) 0 0) (updN (fun i => if i < v then -1 else 0) v0 0) ∧ Laid v x V (fun _ => -1) (fun i => if i < v then -1 else 0) ∧ Nt x d (updN (fun _ => -1) 0 0) (fun _ => -1) 0 K [0]) := ⟨hL1, hL2, hNt⟩
                  clear A hL1 hL2 hNt g1 g3 g4 g0'
                  generalize (wr.setCell ⟨p1, v0, none⟩ (.int .i32 0)).drew = wr at A2 ⊢
                  obtain ⟨wo4, hwo4⟩ : ∃ wo : World, wo = wr := ⟨_, rfl⟩
                  go_loopg [14, 15] (2 * (x - 1) + 1) (fun g s14 s15 wr => ∃ (cnt : Nat) (K : Nat → List Nat) (st : List Nat) (pre post pv qv kf : Nat → Int), g = 2 * (x - 1 - cnt) + st.length ∧ s14 = .int .i32 cnt ∧ NM w wr k1 k2 p1 p2 S v x kf kn pv qv ∧ wr.ownsRow (w.heap.size + 6) 21 1 s15 st.length (stV st) ∧ Nt x d pre post cnt K st ∧ Laid v x V pre pv ∧ Laid v x V post qv ∧ ∀ p, p < x → LL kn (kf p) (K p))
                  case atStart => exact ⟨0, K, [0], _, _, _, _, kf, rfl, rfl, A2.out.1, A2.out.2, B.out.2.2, B.out.1, B.out.2.1, HK.out.1.ll⟩
                  case round =>
                    clear hwo4 A2 B
                    obtain ⟨cnt, K2, st, pre, post, pv, qv, kf2, rfl, rfl, hM, hown, hNt, hL1, hL2, hLL⟩ := hrel
                    have hcm := hNt.cm
                    cases st with
                    | nil =>
                      have HE : Aside (NM w wr k1 k2 p1 p2 S v x kf2 kn pv qv ∧ Nums x d pre post ∧ Laid v x V pre pv ∧ Laid v x V post qv) := ⟨hM, hNt.over (by omega) HI.out.2.2.2.2, hL1, hL2⟩
                      obtain ⟨a15, c15, rfl⟩ : ∃ a15 c15, u15 = .slice a15 0 c15 := by
                        rcases hown.2 with ⟨e, _⟩ | ⟨g, cap, cur, e, _⟩
                        · exact ⟨_, _, e⟩
                        · exact ⟨_, _, e⟩
                      have q0 := hM.f0
                      have q1 := hM.f1
                      have q2 : wr.cell? ⟨w.heap.size, 0, none⟩ = some (.slice none 0 0) := by simp [World.cell?, hM.res]
                      have q3 : wr.cell? ⟨w.heap.size, 1, none⟩ = some (.slice none 0 0) := by simp [World.cell?, hM.res]
                      have q4 : wr.frozen? ⟨w.heap.size, 0, none⟩ = false := by simp [World.frozen?, hM.res]
                      have q5 : wr.frozen? ⟨w.heap.size, 1, none⟩ = false := by simp [World.frozen?, hM.res]
                      clear hM hown hNt hL1 hL2 hLL
                      go_wp2
                      have hD := HK.out.2.2.1
                      have hrow : ((wr.setCell ⟨w.heap.size, 0, none⟩ (.slice (some ⟨p1, 0, none⟩) v v)).setCell ⟨w.heap.size, 1, none⟩ (.slice (some ⟨p2, 0, none⟩) v v)).heap[w.heap.size]? = some (.cells #[.slice (some ⟨p1, 0, none⟩) v v, .slice (some ⟨p2, 0, none⟩) v v] 46 (0, 0)) :=
                        (Go.heap_setCell_same _ _ _ _ _ _ (Go.heap_setCell_same _ _ _ _ _ _ HE.out.1.res)).trans rfl
                      refine bodyPost_ret (results_cell_row rfl _ _ w.heap.size 46 #[.slice (some ⟨p1, 0, none⟩) v v, .slice (some ⟨p2, 0, none⟩) v v] (0, 0) _ rfl hrow Try.underlying46 rfl info46) rfl ?_
                      exact ⟨p1, p2, pre, post, pv, qv, rfl, by omega, by omega, (HE.out.1.a3.other (by show p1 ≠ w.heap.size; omega) _).other (by show p1 ≠ w.heap.size; omega) _, (HE.out.1.a4.other (by show p2 ≠ w.heap.size; omega) _).other (by show p2 ≠ w.heap.size; omega) _, HE.out.2.1, HE.out.2.2.1, HE.out.2.2.2, (HE.out.1.bel.setCell (Nat.le_refl _) _).setCell (Nat.le_refl _) _⟩
                    | cons j r =>
                      have hlen : (j :: r).length = r.length + 1 := rfl
                      obtain ⟨gs, cs, rfl, hgs, hcs, hst⟩ := arr_owns hown (by omega) (fun i => ((j :: r).reverse.getD i 0 : Int)) (fun i hi => by
                        have : i < (j :: r).reverse.length := by simpa using hi
                        simp only [stV, List.getElem?_map, List.getElem?_eq_getElem this, Option.map_some, List.getD_eq_getElem?_getD, Option.getD_some])
                      have hrl : r.length + 1 ≤ 9223372036854775807 := owns_len hown
                      have hjx : j < x := (hNt.stv j List.mem_cons_self).1
                      have g1 : wr.cell? ⟨gs, r.length, none⟩ = some (.int .i32 (j : Int)) := by
                        have := hst.cell (i := r.length) (by omega)
                        rw [this]
                        simp [List.getD_eq_getElem?_getD]
                      obtain ⟨vj, hvj⟩ : ∃ vj, vj = V j := ⟨_, rfl⟩
                      have hvjn : vj < v := by rw [hvj]; exact HI.out.2.2.1 j hjx
                      cases hKj : K2 j with
                      | nil =>
                        have hkf : kf2 j = -1 := by have := hLL j hjx; rw [hKj] at this; exact this
                        have g2 : wr.cell? ⟨k1, j, none⟩ = some (.int .i32 (-1)) := by rw [← hkf]; exact hM.a1.cell hjx
                        have g3 : wr.cell? ⟨bv, j, none⟩ = some (.int .i32 (vj : Int)) := by rw [hvj]; exact cell_later hM.bel (HI.out.1.cell hjx)
                        have g4 := hM.f1
                        have g5 : wr.cell? ⟨p2, vj, none⟩ = some (.int .i32 (qv vj)) := hM.a4.cell hvjn
                        have g6 : wr.frozen? ⟨p2, vj, none⟩ = false := hM.a4.frozen _
                        have hsl := slice_head gs (r.length + 1) cs r.length (by omega)
                        have A : Aside (NM w wr k1 k2 p1 p2 S v x kf2 kn pv qv ∧ wr.ownsRow (w.heap.size + 6) 21 1 (.slice (some ⟨gs, 0, none⟩) (r.length + 1) cs) (r.length + 1) (stV (j :: r)) ∧ Nt x d pre (updN post j ((cnt + 1 : Nat) : Int)) cnt K2 r ∧ Laid v x V pre pv ∧ Laid v x V (updN post j ((cnt + 1 : Nat) : Int)) (updN qv vj ((cnt + 1 : Nat) : Int)) ∧ ∀ p, p < x → LL kn (kf2 p) (K2 p)) :=
                          ⟨hM, hown, hNt.pop HI.out.2.2.2.2 hKj, hL1, by rw [hvj]; exact hL2.upd HI.out.2.2.2.1 hjx _, hLL⟩
                        have hcb : cnt < 4096 := by omega
                        clear hM hown hNt hL1 hL2 hLL hkf hst hKj hvj
                        rw [hlen]
                        go_wp2
                        go_region
                        all_goals go_wp2
                        go_roundg (2 * (x - 1 - cnt) + r.length)
                        case rel =>
                          go_light
                          refine ⟨cnt, K2, r, pre, _, pv, _, kf2, rfl, rfl, (A.out.1.set4 HK.out.2.2.1 vj ((cnt + 1 : Nat) : Int)).drew, ?_, A.out.2.2.1, A.out.2.2.2.1, A.out.2.2.2.2.1, A.out.2.2.2.2.2⟩
                          have hk := A.out.2.1.kept (w' := (wr.setCell ⟨p2, vj, none⟩ (.int .i32 ((cnt + 1 : Nat) : Int))).drew) (row := some p2) ⟨rfl, rfl, rfl, by simp, fun k hk hne => Below.heap_setCell _ _ _ _ (fun e => hne (congrArg some e))⟩ (.inr (by simp [Value.ownBlock]; omega))
                          exact owns_pop hk r.length (by omega) (by rw [stV_cons, List.take_left' (stV_len r)])
                        case measure => go_light; omega
                      | cons k t =>
                        have hkf : kf2 j = (k : Int) ∧ LL kn (kn k) t := by have := hLL j hjx; rw [hKj] at this; exact this
                        obtain ⟨hk1', hk2', hk3', hk4'⟩ := hNt.kids j k (by rw [hKj]; exact List.mem_cons_self)
                        obtain ⟨vk, hvk⟩ : ∃ vk, vk = V k := ⟨_, rfl⟩
                        have hvkn : vk < v := by rw [hvk]; exact HI.out.2.2.1 k hk1'
                        obtain ⟨q, hq⟩ : ∃ q, q = kn k := ⟨_, rfl⟩
                        have hps := hNt.push HI.out.2.2.2.2 hKj
                        have g2 : wr.cell? ⟨k1, j, none⟩ = some (.int .i32 (k : Int)) := by rw [← hkf.1]; exact hM.a1.cell hjx
                        have g2' : wr.frozen? ⟨k1, j, none⟩ = false := hM.a1.frozen _
                        have g3 : wr.cell? ⟨k2, k, none⟩ = some (.int .i32 q) := by rw [hq]; exact hM.a2.cell hk1'
                        have g4 : wr.cell? ⟨bv, k, none⟩ = some (.int .i32 (vk : Int)) := by rw [hvk]; exact cell_later hM.bel (HI.out.1.cell hk1')
                        have g5 := hM.f0
                        have g6 : wr.cell? ⟨p1, vk, none⟩ = some (.int .i32 (pv vk)) := hM.a3.cell hvkn
                        have g7 : wr.frozen? ⟨p1, vk, none⟩ = false := hM.a3.frozen _
                        have hcb : cnt < 4096 := by omega
                        have hkb : k < 4096 := by omega
                        have hbvl : bv < w.heap.size := HI.out.1.lt
                        have hne1 : bv ≠ k1 := by omega
                        have hne2 : S ≠ k1 := by have := HK.out.2.2.1.Sl; omega
                        have hne3 : p1 ≠ k1 := by omega
                        have A : Aside (NM w wr k1 k2 p1 p2 S v x kf2 kn pv qv ∧ wr.ownsRow (w.heap.size + 6) 21 1 (.slice (some ⟨gs, 0, none⟩) (r.length + 1) cs) (r.length + 1) (stV (j :: r)) ∧ Nt x d (updN pre k ((cnt + 1 : Nat) : Int)) post (cnt + 1) (updN K2 j t) (k :: j :: r) ∧ Laid v x V (updN pre k ((cnt + 1 : Nat) : Int)) (updN pv vk ((cnt + 1 : Nat) : Int)) ∧ Laid v x V post qv ∧ (∀ p, p < x → LL kn (updN kf2 j q p) (updN K2 j t p)) ∧ cnt + 1 < x ∧ vk = V k) :=
                          ⟨hM, hown, hps.2, by rw [hvk]; exact hL1.upd HI.out.2.2.2.1 hk1' _, hL2, fun p hp => by
                            by_cases e : p = j
                            · subst e; rw [updN_same, updN_same, hq]; exact hkf.2
                            · rw [updN_ne _ _ e, updN_ne _ _ e]; exact hLL p hp, hps.1, hvk⟩
                        clear hM hown hNt hL1 hL2 hLL hkf hst hKj hvj hps hvk hq hk2' hk3' hk4'
                        rw [hlen]
                        go_upto_region 27 with fail
                        have B1 : Aside (NM w (wr.setCell ⟨k1, j, none⟩ (.int .i32 q)) k1 k2 p1 p2 S v x (updN kf2 j q) kn pv qv ∧ (wr.setCell ⟨k1, j, none⟩ (.int .i32 q)).ownsRow (w.heap.size + 6) 21 1 (.slice (some ⟨gs, 0, none⟩) (r.length + 1) cs) (r.length + 1) (stV (j :: r))) :=
                          ⟨A.out.1.set1 HK.out.2.2.1 j q, A.out.2.1.kept (row := some k1) ⟨rfl, rfl, rfl, by simp, fun k hk hne => Below.heap_setCell _ _ _ _ (fun e => hne (congrArg some e))⟩ (.inr (by simp [Value.ownBlock]; omega))⟩
                        have A2 : Aside (Nt x d (updN pre k ((cnt + 1 : Nat) : Int)) post (cnt + 1) (updN K2 j t) (k :: j :: r) ∧ Laid v x V (updN pre k ((cnt + 1 : Nat) : Int)) (updN pv vk ((cnt + 1 : Nat) : Int)) ∧ Laid v x V post qv ∧ (∀ p, p < x → LL kn (updN kf2 j q p) (updN K2 j t p)) ∧ cnt + 1 < x ∧ vk = V k) := ⟨A.out.2.2.1, A.out.2.2.2.1, A.out.2.2.2.2.1, A.out.2.2.2.2.2.1, A.out.2.2.2.2.2.2.1, A.out.2.2.2.2.2.2.2⟩
                        clear A g1 g2 g2' g3 g4 g5 g6 g7
                        generalize wr.setCell ⟨k1, j, none⟩ (.int .i32 q) = wr at B1 ⊢
                        have g4 : wr.cell? ⟨bv, k, none⟩ = some (.int .i32 (vk : Int)) := by rw [A2.out.2.2.2.2.2]; exact cell_later B1.out.1.bel (HI.out.1.cell hk1')
                        have g5 := B1.out.1.f0
                        have g6 : wr.cell? ⟨p1, vk, none⟩ = some (.int .i32 (pv vk)) := B1.out.1.a3.cell hvkn
                        have g7 : wr.frozen? ⟨p1, vk, none⟩ = false := B1.out.1.a3.frozen _
                        go_region
                        have B2 : Aside (NM w (wr.setCell ⟨p1, vk, none⟩ (.int .i32 ((cnt : Int) + 1))).drew k1 k2 p1 p2 S v x (updN kf2 j q) kn (updN pv vk ((cnt : Int) + 1)) qv ∧ (wr.setCell ⟨p1, vk, none⟩ (.int .i32 ((cnt : Int) + 1))).drew.ownsRow (w.heap.size + 6) 21 1 (.slice (some ⟨gs, 0, none⟩) (r.length + 1) cs) (r.length + 1) (stV (j :: r))) :=
                          ⟨(B1.out.1.set3 HK.out.2.2.1 vk _).drew, B1.out.2.kept (w' := (wr.setCell ⟨p1, vk, none⟩ (.int .i32 ((cnt : Int) + 1))).drew) (row := some p1) ⟨rfl, rfl, rfl, by simp, fun k hk hne => Below.heap_setCell _ _ _ _ (fun e => hne (congrArg some e))⟩ (.inr (by simp [Value.ownBlock]; omega))⟩
                        clear B1 g4 g5 g6 g7
                        generalize (wr.setCell ⟨p1, vk, none⟩ (.int .i32 ((cnt : Int) + 1))).drew = wr at B2 ⊢
                        obtain ⟨i0, hi, hz0, hz1, hz2⟩ := info_parts Try.info21
                        have hrx : r.length + 1 ≤ 8192 := by
                          have h1 := wayN_len HI.out.2.2.2.2 (j :: r) k hk1' A2.out.1.way
                          have h2 : (j :: r).length = r.length + 1 := rfl
                          omega
                        go_wp2_with (at_builtin; refine wpList_append_own _ rfl (.tmp 113) (.tmp 115) 22 rfl (w.heap.size + 6) 21 i0 (.int .i32 0) 1 4 Try.underlying22 hi hz0 hz1 hz2 rfl (by decide) (.slice (some ⟨gs, 0, none⟩) (r.length + 1) cs) (r.length + 1) (stV (j :: r)) rfl (B2.out.2.alloc _) ⟨wr.heap.size, 0, none⟩ 1 1 [.int .i32 (k : Int)] rfl rfl (cell_one_new _ _ _) (by simp [Value.oneCell']) (by simp only [maxLen]; omega) (by omega) (by have := B2.out.1.sz; simp; omega) ?_; intro v' w1 hown1 hgr1 _)
                        go_roundg (2 * (x - 1 - (cnt + 1)) + (r.length + 2))
                        case rel =>
                          go_light
                          refine ⟨cnt + 1, updN K2 j t, k :: j :: r, _, post, _, qv, updN kf2 j q, by simp, by go_num, ?_, ?_, A2.out.1, A2.out.2.1, A2.out.2.2.1, A2.out.2.2.2.1⟩
                          · have hb : Below (w.heap.size + 6) wr w1 := by
                              have h1 : Below (w.heap.size + 6) wr (wr.alloc (.cells #[.int .i32 (k : Int)] 21)) := (Below.refl _ _).alloc B2.out.1.sz _
                              refine h1.trans ⟨hgr1.os, hgr1.tape, hgr1.output, hgr1.size, fun y hy => hgr1.block y (by have := B2.out.1.sz; simp; omega) ?_⟩
                              simp [Value.ownBlock]; omega
                            have := B2.out.1.later HK.out.2.2.1 hb
                            rw [show ((cnt : Int) + 1) = ((cnt + 1 : Nat) : Int) by omega] at this
                            exact this
                          · rw [stV_cons]
                            exact hown1
                        case measure =>
                          have := A2.out.2.2.2.2.1
                          go_light; omega
end Go.Proofs.Qxb6602963a
