import Derived.Test.Qxb6602963aSt2
import Derived.Deep.CutBlock
namespace Go.Proofs.Qxb6602963a
open Go.RowKit
set_option linter.unusedVariables false

def DomPost (n L src : Nat) (pf pr : Nat → Nat) (w : World) (e : Ending) (w' : World) : Prop :=
  ∃ (bp bq bs m : Nat) (sf sc V d : Nat → Nat) (num span pre post preV postV : Nat → Int) (P : Nat → Nat), e = .returned (.tuple #[.agg #[.slice (some ⟨bp, 0, none⟩) n n, .slice (some ⟨bq, 0, none⟩) n n], .slice (some ⟨bs, 0, none⟩) n n]) ∧
    Arr w' bp n preV ∧ Arr w' bq n postV ∧ Arr w' bs n span ∧ Gr n L sf sc ∧ (∀ u v, u < n → v < n → (Go1 sf sc u v ↔ Fits n pf pr u v)) ∧ Dfs n src L sf sc m V num span P [] ∧ Nums m d pre post ∧
    (∀ i j, i < m → j < m → (¬ RA (En m sf sc V) i j ↔ Anc d i j)) ∧ Laid n m V pre preV ∧ Laid n m V post postV ∧ Below w.heap.size w w'

/-- the box and the result's cell -/
structure PB (w wr : World) (src n L b1 o1 c1 : Nat) (a2 : Option Addr) (c2 : Nat) : Prop where
  bel : Below w.heap.size w wr
  box : wr.heap[w.heap.size]? = some (.cells #[.int .i64 src, .slice (some ⟨b1, o1, none⟩) (n + 1) c1, .slice a2 L c2] 50 (0, 0))
  res : wr.heap[w.heap.size + 1]? = some (.cells #[.slice none 0 0, .slice none 0 0] 46 (0, 0))
  sz : w.heap.size + 2 ≤ wr.heap.size

/-- the order of the first blocks -/
structure DA (H b3 b4 b5 b6 B : Nat) : Prop where
  l3 : H + 2 ≤ b3
  l4 : H + 2 ≤ b4
  h3 : b3 < b5 ∧ b3 < b6
  h4 : b4 < b5 ∧ b4 < b6
  ne : b5 ≠ b6
  h5 : b5 < B
  h6 : b6 < B

structure PA (w wr : World) (src n L b1 o1 c1 : Nat) (a2 : Option Addr) (c2 b3 b4 b5 b6 B : Nat) (sf sc : Nat → Nat) (num span : Nat → Int) : Prop where
  pb : PB w wr src n L b1 o1 c1 a2 c2
  a3 : Arr wr b3 (n + 1) (fun i => (sf i : Int))
  a4 : Arr wr b4 L (fun i => (sc i : Int))
  a5 : Arr wr b5 n num
  a6 : Arr wr b6 n span
  sz : B ≤ wr.heap.size

section
variable {w wr : World} {src n L b1 o1 c1 : Nat} {a2 : Option Addr} {c2 b3 b4 b5 b6 B : Nat} {sf sc : Nat → Nat} {num span : Nat → Int}
theorem PB.move (h : PB w wr src n L b1 o1 c1 a2 c2) {w2 : World} (hb : Below w.heap.size w w2) (e0 : w2.heap[w.heap.size]? = wr.heap[w.heap.size]?) (e1 : w2.heap[w.heap.size + 1]? = wr.heap[w.heap.size + 1]?) (hs : wr.heap.size ≤ w2.heap.size) : PB w w2 src n L b1 o1 c1 a2 c2 :=
  ⟨hb, e0.trans h.box, e1.trans h.res, by have := h.sz; omega⟩
theorem PA.set5 (h : PA w wr src n L b1 o1 c1 a2 c2 b3 b4 b5 b6 B sf sc num span) (D : DA w.heap.size b3 b4 b5 b6 B) (i : Nat) (v : Int) : PA w (wr.setCell ⟨b5, i, none⟩ (.int .i32 v)) src n L b1 o1 c1 a2 c2 b3 b4 b5 b6 B sf sc (updN num i v) span := by
  have hb : ∀ j, j ≠ b5 → (wr.setCell ⟨b5, i, none⟩ (.int .i32 v)).heap[j]? = wr.heap[j]? := fun j hj => Below.heap_setCell _ _ _ _ hj
  have d1 := D.l3; have d2 := D.l4; have d3 := D.h3; have d4 := D.h4; have d5 := D.ne
  exact ⟨h.pb.move (h.pb.bel.setCell (by show _ ≤ b5; omega) _) (hb _ (by omega)) (hb _ (by omega)) (by simp), h.a3.of_block (hb _ (by omega)), h.a4.of_block (hb _ (by omega)), h.a5.upd i v, h.a6.of_block (hb _ (by omega)), by simpa using h.sz⟩
theorem PA.set6 (h : PA w wr src n L b1 o1 c1 a2 c2 b3 b4 b5 b6 B sf sc num span) (D : DA w.heap.size b3 b4 b5 b6 B) (i : Nat) (v : Int) : PA w (wr.setCell ⟨b6, i, none⟩ (.int .i32 v)) src n L b1 o1 c1 a2 c2 b3 b4 b5 b6 B sf sc num (updN span i v) := by
  have hb : ∀ j, j ≠ b6 → (wr.setCell ⟨b6, i, none⟩ (.int .i32 v)).heap[j]? = wr.heap[j]? := fun j hj => Below.heap_setCell _ _ _ _ hj
  have d1 := D.l3; have d2 := D.l4; have d3 := D.h3; have d4 := D.h4; have d5 := D.ne
  exact ⟨h.pb.move (h.pb.bel.setCell (by show _ ≤ b6; omega) _) (hb _ (by omega)) (hb _ (by omega)) (by simp), h.a3.of_block (hb _ (by omega)), h.a4.of_block (hb _ (by omega)), h.a5.of_block (hb _ (by omega)), h.a6.upd i v, by simpa using h.sz⟩
theorem PA.drew (h : PA w wr src n L b1 o1 c1 a2 c2 b3 b4 b5 b6 B sf sc num span) : PA w wr.drew src n L b1 o1 c1 a2 c2 b3 b4 b5 b6 B sf sc num span := ⟨⟨h.pb.bel.drew, h.pb.box, h.pb.res, h.pb.sz⟩, h.a3, h.a4, h.a5, h.a6, h.sz⟩
theorem PA.drewN (h : PA w wr src n L b1 o1 c1 a2 c2 b3 b4 b5 b6 B sf sc num span) (k : Nat) : PA w (wr.drewN k) src n L b1 o1 c1 a2 c2 b3 b4 b5 b6 B sf sc num span := ⟨⟨⟨h.pb.bel.os, h.pb.bel.tape, h.pb.bel.output, h.pb.bel.size, h.pb.bel.block⟩, h.pb.box, h.pb.res, h.pb.sz⟩, h.a3, h.a4, h.a5, h.a6, h.sz⟩
theorem PA.later (h : PA w wr src n L b1 o1 c1 a2 c2 b3 b4 b5 b6 B sf sc num span) (D : DA w.heap.size b3 b4 b5 b6 B) {w1 : World} (k : Below B wr w1) : PA w w1 src n L b1 o1 c1 a2 c2 b3 b4 b5 b6 B sf sc num span := by
  have d1 := D.l3; have d2 := D.l4; have d3 := D.h3; have d4 := D.h4; have d5 := D.ne; have d6 := D.h5; have d7 := D.h6
  exact ⟨h.pb.move (h.pb.bel.trans (k.mono (by omega))) (k.block _ (by omega)) (k.block _ (by omega)) k.size, h.a3.of_block (k.block _ (by omega)), h.a4.of_block (k.block _ (by omega)), h.a5.of_block (k.block _ (by omega)), h.a6.of_block (k.block _ (by omega)), by have := k.size; have := h.sz; omega⟩
theorem PA.congr (h : PA w wr src n L b1 o1 c1 a2 c2 b3 b4 b5 b6 B sf sc num span) {num' span' : Nat → Int} (e1 : ∀ i, i < n → num i = num' i) (e2 : ∀ i, i < n → span i = span' i) : PA w wr src n L b1 o1 c1 a2 c2 b3 b4 b5 b6 B sf sc num' span' := ⟨h.pb, h.a3, h.a4, h.a5.congr e1, h.a6.congr e2, h.sz⟩
end

/-- two rows were laid, in whatever order -/
theorem two {wr W : World} {A : Obj} (hW : W = ((wr.alloc A).alloc A).drew) : W.heap.size = wr.heap.size + 2 ∧ Below wr.heap.size wr W ∧ W.heap[wr.heap.size]? = some A ∧ W.heap[wr.heap.size + 1]? = some A := by
  subst hW
  have h1 : (wr.alloc A).heap[wr.heap.size]? = some A := heap_alloc_new _ _
  have h2 : ((wr.alloc A).alloc A).heap[wr.heap.size + 1]? = some A := by have := heap_alloc_new (wr.alloc A) A; simpa using this
  have hb1 := (Below.refl (wr.heap.size + 1) (wr.alloc A)).alloc (by simp) A
  exact ⟨by simp, (((Below.refl _ _).alloc (Nat.le_refl _) _).alloc (by simp) _).drew, (hb1.block _ (by omega)).trans h1, h2⟩

theorem pb0 (w : World) (src n L b1 o1 c1 : Nat) (a2 : Option Addr) (c2 : Nat) : PB w ((w.alloc (.cells #[.int .i64 src, .slice (some ⟨b1, o1, none⟩) (n + 1) c1, .slice a2 L c2] 50)).alloc (.cells #[.slice none 0 0, .slice none 0 0] 46)) src n L b1 o1 c1 a2 c2 := by
  have h1 : (w.alloc (.cells #[.int .i64 src, .slice (some ⟨b1, o1, none⟩) (n + 1) c1, .slice a2 L c2] 50)).heap[w.heap.size]? = some (.cells #[.int .i64 src, .slice (some ⟨b1, o1, none⟩) (n + 1) c1, .slice a2 L c2] 50 (0, 0)) := heap_alloc_new _ _
  have h2 := heap_alloc_new (w.alloc (.cells #[.int .i64 src, .slice (some ⟨b1, o1, none⟩) (n + 1) c1, .slice a2 L c2] 50)) (.cells #[.slice none 0 0, .slice none 0 0] 46)
  have hb1 := (Below.refl (w.heap.size + 1) (w.alloc (.cells #[.int .i64 src, .slice (some ⟨b1, o1, none⟩) (n + 1) c1, .slice a2 L c2] 50))).alloc (by simp) (.cells #[.slice none 0 0, .slice none 0 0] 46)
  exact ⟨((Below.refl _ _).alloc (Nat.le_refl _) _).alloc (by simp) _, (hb1.block _ (by omega)).trans h1, by simpa using h2, by simp⟩

def Laid2 (h n : Nat) (wr : World) (s1 s2 : Value) (wc : World) : Prop :=
  ∃ p1 p2, s1 = .slice (some ⟨p1, 0, none⟩) n n ∧ s2 = .slice (some ⟨p2, 0, none⟩) n n ∧ p1 ≠ p2 ∧ h ≤ p1 ∧ h ≤ p2 ∧ p1 < h + 2 ∧ p2 < h + 2 ∧ wc.heap.size = h + 2 ∧ Below h wr wc ∧ Arr wc p1 n (fun _ => 0) ∧ Arr wc p2 n (fun _ => 0)


/-- the vertices by number -/
def vtV (V : Nat → Nat) (m : Nat) : List Value := (List.range m).map fun i => .int .i32 (V i : Int)
theorem vtV_upd (V : Nat → Nat) (m y : Nat) : vtV (updN V m y) (m + 1) = vtV V m ++ [.int .i32 (y : Int)] := by
  unfold vtV
  rw [List.range_succ, List.map_append]
  congr 1
  · apply List.map_congr_left
    intro i hi
    rw [updN_ne _ _ (by have := List.mem_range.1 hi; omega)]
  · simp [updN_same]
theorem vtV_get (V : Nat → Nat) (m i : Nat) (hi : i < m) : (vtV V m)[i]? = some (.int .i32 (V i : Int)) := by
  unfold vtV; rw [List.getElem?_map, List.getElem?_range hi]; rfl

theorem way_len {m : Nat} {P : Nat → Nat} (hd : ∀ i, 0 < i → i < m → P i < i) : ∀ (r : List (Nat × Nat)) (j x : Nat), j < m → Way P ((j, x) :: r) → r.length ≤ j := by
  intro r
  induction r with
  | nil => intro j x _ _; simp
  | cons q r ih =>
    obtain ⟨k, y⟩ := q
    intro j x hj hw
    obtain ⟨h0, h1, h2⟩ := hw
    have := hd j h0 hj
    have := ih k y (by omega) h2
    simp only [List.length_cons]
    omega

theorem wt_congr {sf V V' : Nat → Nat} : ∀ St : List (Nat × Nat), (∀ j x, (j, x) ∈ St → V j = V' j) → wt sf V St = wt sf V' St := by
  intro St
  induction St with
  | nil => intro _; rfl
  | cons p r ih =>
    obtain ⟨j, x⟩ := p
    intro h
    simp only [wt]
    rw [ih (fun j x hm => h j x (List.mem_cons_of_mem _ hm)), h j x List.mem_cons_self]

theorem mu_push {n src L m : Nat} {sf sc V P : Nat → Nat} {num span : Nat → Int} (G : Gr n L sf sc) {j x : Nat} {r : List (Nat × Nat)} (h : Dfs n src L sf sc m V num span P ((j, x) :: r)) (hx : x < sf (V j + 1)) (hn : num (sc x) < 0) :
    free (updN num (sc x) (m : Int)) n * (L + 2) + wt sf (updN V m (sc x)) ((m, sf (sc x)) :: (j, x + 1) :: r) < free num n * (L + 2) + wt sf V ((j, x) :: r) := by
  obtain ⟨hj, h1, h2⟩ := h.stl j x List.mem_cons_self
  have hvj := h.vlt j hj
  have hw : sc x < n := G.lt x (by have := G.top (V j + 1) (by omega); omega)
  have hf := free_upd (num := num) (w := sc x) (x := (m : Int)) hn (by omega) n
  rw [if_pos hw] at hf
  have hr : wt sf (updN V m (sc x)) r = wt sf V r := wt_congr r fun i y hm => updN_ne _ _ (by have := (h.stl i y (List.mem_cons_of_mem _ hm)).1; omega)
  have ht := G.top (sc x + 1) (by omega)
  simp only [wt]
  rw [updN_same, hr, updN_ne _ _ (show j ≠ m by omega), ← hf, Nat.add_mul]
  omega

structure PD (w wr : World) (src n L b1 o1 c1 : Nat) (a2 : Option Addr) (c2 b3 b4 b5 b6 B : Nat) (sf sc : Nat → Nat) (num span : Nat → Int) (V : Nat → Nat) (m : Nat) (vv : Value) (St : List (Nat × Nat)) (vw : Value) : Prop where
  pa : PA w wr src n L b1 o1 c1 a2 c2 b3 b4 b5 b6 B sf sc num span
  ov : wr.ownsRow B 21 1 vv m (vtV V m)
  ow : wr.ownsRow B 55 2 vw St.length (stV2 V St)

theorem own_apart {w : World} {B B' k k' : Nat} {v v' : Value} {xs ys : List Value} (h : w.ownsRow B 21 1 v k xs) (h' : w.ownsRow B' 55 2 v' k' ys) {g : Nat} (e1 : v.ownBlock = some g) (e2 : v'.ownBlock = some g) : False := by
  rcases h.2 with ⟨rfl, _⟩ | ⟨g1, cap, cur, rfl, hb, hg, _⟩
  · cases e1
  · rcases h'.2 with ⟨rfl, _⟩ | ⟨g2, cap2, cur2, rfl, hb2, hg2, _⟩
    · cases e2
    · cases e1; cases e2
      rw [hg] at hg2
      cases hg2

section
variable {w wr : World} {src n L b1 o1 c1 : Nat} {a2 : Option Addr} {c2 b3 b4 b5 b6 B : Nat} {sf sc : Nat → Nat} {num span : Nat → Int} {V : Nat → Nat} {m : Nat} {vv : Value} {St : List (Nat × Nat)} {vw : Value}

theorem own_low {e : TypeId} {s k : Nat} {v : Value} {xs : List Value} (h : wr.ownsRow B e s v k xs) {b : Nat} (hb : b < B) (i : Nat) (x : Value) : (wr.setCell ⟨b, i, none⟩ x).ownsRow B e s v k xs :=
  h.kept (row := some b) ⟨rfl, rfl, rfl, by simp, fun j hj hne => Below.heap_setCell _ _ _ _ (fun e => hne (congrArg some e))⟩ (by
    rcases hv : v.ownBlock with _ | g
    · exact .inl rfl
    · refine .inr fun e => ?_
      have := (h.lt g hv).1
      cases e; omega)

theorem PD.set5 (h : PD w wr src n L b1 o1 c1 a2 c2 b3 b4 b5 b6 B sf sc num span V m vv St vw) (D : DA w.heap.size b3 b4 b5 b6 B) (i : Nat) (v : Int) : PD w (wr.setCell ⟨b5, i, none⟩ (.int .i32 v)) src n L b1 o1 c1 a2 c2 b3 b4 b5 b6 B sf sc (updN num i v) span V m vv St vw :=
  ⟨h.pa.set5 D i v, own_low h.ov D.h5 i _, own_low h.ow D.h5 i _⟩
theorem PD.set6 (h : PD w wr src n L b1 o1 c1 a2 c2 b3 b4 b5 b6 B sf sc num span V m vv St vw) (D : DA w.heap.size b3 b4 b5 b6 B) (i : Nat) (v : Int) : PD w (wr.setCell ⟨b6, i, none⟩ (.int .i32 v)) src n L b1 o1 c1 a2 c2 b3 b4 b5 b6 B sf sc num (updN span i v) V m vv St vw :=
  ⟨h.pa.set6 D i v, own_low h.ov D.h6 i _, own_low h.ow D.h6 i _⟩
theorem PD.drew (h : PD w wr src n L b1 o1 c1 a2 c2 b3 b4 b5 b6 B sf sc num span V m vv St vw) : PD w wr.drew src n L b1 o1 c1 a2 c2 b3 b4 b5 b6 B sf sc num span V m vv St vw := ⟨h.pa.drew, h.ov.drew, h.ow.drew⟩
theorem PD.drewN (h : PD w wr src n L b1 o1 c1 a2 c2 b3 b4 b5 b6 B sf sc num span V m vv St vw) (q : Nat) : PD w (wr.drewN q) src n L b1 o1 c1 a2 c2 b3 b4 b5 b6 B sf sc num span V m vv St vw :=
  ⟨h.pa.drewN q, h.ov.kept (row := none) ⟨rfl, rfl, rfl, Nat.le_refl _, fun _ _ _ => rfl⟩ (by cases hv : vv.ownBlock <;> simp), h.ow.kept (row := none) ⟨rfl, rfl, rfl, Nat.le_refl _, fun _ _ _ => rfl⟩ (by cases hv : vw.ownBlock <;> simp)⟩
/-- the top's next is turned -/
theorem PD.next {j x g c : Nat} {r : List (Nat × Nat)} (h : PD w wr src n L b1 o1 c1 a2 c2 b3 b4 b5 b6 B sf sc num span V m vv ((j, x) :: r) (.slice (some ⟨g, 0, none⟩) (r.length + 1) c)) (D : DA w.heap.size b3 b4 b5 b6 B) (y : Nat) :
    PD w (wr.setCell ⟨g, 2 * r.length + 1, none⟩ (.int .i32 (y : Int))) src n L b1 o1 c1 a2 c2 b3 b4 b5 b6 B sf sc num span V m vv ((j, y) :: r) (.slice (some ⟨g, 0, none⟩) (r.length + 1) c) := by
  obtain ⟨g', c', e, hg, _, _, _, _, _, h1, _⟩ := owns2_top h.ow
  cases e
  have hb : ∀ i, i ≠ g → (wr.setCell ⟨g, 2 * r.length + 1, none⟩ (.int .i32 (y : Int))).heap[i]? = wr.heap[i]? := fun i hi => Below.heap_setCell _ _ _ _ hi
  have hB : Below B wr (wr.setCell ⟨g, 2 * r.length + 1, none⟩ (.int .i32 (y : Int))) := (Below.refl _ _).setCell hg _
  refine ⟨h.pa.later D hB, h.ov.kept (row := some g) ⟨rfl, rfl, rfl, by simp, fun i hi hne => hb i (fun e => hne (congrArg some e))⟩ ?_, h1 y⟩
  rcases hv : vv.ownBlock with _ | g2
  · exact .inl rfl
  · exact .inr fun e => own_apart h.ov h.ow hv (by rw [e]; rfl)
/-- a row of the vertices grows -/
theorem PD.grownV (h : PD w wr src n L b1 o1 c1 a2 c2 b3 b4 b5 b6 B sf sc num span V m vv St vw) (D : DA w.heap.size b3 b4 b5 b6 B) {o : Obj} {w1 : World} {vv' : Value} {y : Nat} (hgr : (wr.alloc o).grownBy w1 vv.ownBlock) (hown : w1.ownsRow B 21 1 vv' (m + 1) (vtV V m ++ [.int .i32 (y : Int)])) (hst : ∀ j x, (j, x) ∈ St → j < m) :
    PD w w1 src n L b1 o1 c1 a2 c2 b3 b4 b5 b6 B sf sc num span (updN V m y) (m + 1) vv' St vw := by
  have hsz := h.pa.sz
  have hB : Below B wr w1 := by
    have h1 : Below B wr (wr.alloc o) := (Below.refl _ _).alloc hsz _
    refine h1.trans ⟨hgr.os, hgr.tape, hgr.output, hgr.size, fun i hi => hgr.block i (by simp; omega) fun e => ?_⟩
    have := (h.ov.lt i e.symm).1
    omega
  refine ⟨h.pa.later D hB, by rw [vtV_upd]; exact hown, ?_⟩
  rw [stV2_congr (V' := V) (fun j x hm => updN_ne _ _ (by have := hst j x hm; omega))]
  refine (h.ow.alloc o).kept hgr ?_
  rcases hv : vw.ownBlock with _ | g2
  · exact .inl rfl
  · exact .inr fun e => own_apart h.ov h.ow e.symm hv
theorem PD.grownW (h : PD w wr src n L b1 o1 c1 a2 c2 b3 b4 b5 b6 B sf sc num span V m vv St vw) (D : DA w.heap.size b3 b4 b5 b6 B) {o : Obj} {w1 : World} {vw' : Value} {j y : Nat} (hgr : (wr.alloc o).grownBy w1 vw.ownBlock) (hown : w1.ownsRow B 55 2 vw' (St.length + 1) (stV2 V St ++ [.int .i32 (V j : Int), .int .i32 (y : Int)])) :
    PD w w1 src n L b1 o1 c1 a2 c2 b3 b4 b5 b6 B sf sc num span V m vv ((j, y) :: St) vw' := by
  have hsz := h.pa.sz
  have hB : Below B wr w1 := by
    have h1 : Below B wr (wr.alloc o) := (Below.refl _ _).alloc hsz _
    refine h1.trans ⟨hgr.os, hgr.tape, hgr.output, hgr.size, fun i hi => hgr.block i (by simp; omega) fun e => ?_⟩
    have := (h.ow.lt i e.symm).1
    omega
  refine ⟨h.pa.later D hB, ?_, by rw [stV2_cons]; exact hown⟩
  refine (h.ov.alloc o).kept hgr ?_
  rcases hv : vv.ownBlock with _ | g2
  · exact .inl rfl
  · exact .inr fun e => own_apart h.ov h.ow hv e.symm
theorem PD.popped {j x g c : Nat} {r : List (Nat × Nat)} (h : PD w wr src n L b1 o1 c1 a2 c2 b3 b4 b5 b6 B sf sc num span V m vv ((j, x) :: r) (.slice (some ⟨g, 0, none⟩) (r.length + 1) c)) :
    PD w wr src n L b1 o1 c1 a2 c2 b3 b4 b5 b6 B sf sc num span V m vv r (.slice (some ⟨g, 0, none⟩) r.length c) := by
  obtain ⟨g', c', e, hg, _, _, _, _, _, _, h1⟩ := owns2_top h.ow
  cases e
  exact ⟨h.pa, h.ov, h1 wr rfl⟩
end
end Go.Proofs.Qxb6602963a
