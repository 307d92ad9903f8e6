import Derived.Test.Qxb6602963aSmall
import Derived.Test.Qxb6602963aRot
import Derived.Test.Qxb6602963aLc
namespace Go.Proofs.Qxb6602963a
open Go.RowKit
set_option linter.unusedVariables false

/-! ### zzMarkSubtree: plain -/

/-- what is still to be marked: the trees of the stack's first 'top' entries -/
def todo (T : Nat → Nat → List (Nat × Nat)) (sk : Nat → Nat) : Nat → List Nat
  | 0 => []
  | k + 1 => todo T sk k ++ (T 0 (sk k)).map Prod.fst

theorem todo_congr {T : Nat → Nat → List (Nat × Nat)} {sk sk' : Nat → Nat} {k : Nat} (h : ∀ j, j < k → sk' j = sk j) : todo T sk' k = todo T sk k := by
  induction k with
  | zero => rfl
  | succ k ih => simp only [todo]; rw [ih (fun j hj => h j (by omega)), h k (by omega)]

theorem todo_upd {T : Nat → Nat → List (Nat × Nat)} {sk : Nat → Nat} {k c : Nat} : todo T (upd sk k c) (k + 1) = todo T sk k ++ (T 0 c).map Prod.fst := by
  simp only [todo]
  rw [todo_congr (fun j hj => upd_other _ _ _ _ (by omega)), upd_same]

theorem len_shift {l r u : Nat → Nat} {L : Nat} (h : OK l r u L) {T : Nat → Nat → List (Nat × Nat)} (t : Trav l r L T) {a : Nat} (ha : a < L) (d : Nat) : (T d a).map Prod.fst = (T 0 a).map Prod.fst := by
  induction d with
  | zero => rfl
  | succ d ih => rw [t.shift h a ha d, List.map_map]; exact ih

theorem verts_node {l r u : Nat → Nat} {L : Nat} (h : OK l r u L) {T : Nat → Nat → List (Nat × Nat)} (t : Trav l r L T) {v : Nat} (hv : Vx L v) :
    (T 0 v).map Prod.fst = (T 0 (l v)).map Prod.fst ++ v :: (T 0 (r v)).map Prod.fst := by
  rw [t.node 0 v hv, List.map_append, List.map_cons, len_shift h t (h.bl v hv) (0 + 1), len_shift h t (h.br v hv) (0 + 1)]

structure Mking (L : Nat) (T : Nat → Nat → List (Nat × Nat)) (root : Nat) (mk0 mk : Nat → Bool) (sk : Nat → Nat) (top : Nat) : Prop where
  vx : ∀ j, j < top → Vx L (sk j)
  len : top ≤ (todo T sk top).length
  all : (todo T sk top).length ≤ (T 0 root).length
  same : ∀ v, v < L → (mk v = true ∨ v ∈ todo T sk top ↔ mk0 v = true ∨ v ∈ (T 0 root).map Prod.fst)
  mono : ∀ v, v < L → mk v = true → mk0 v = true ∨ v ∈ (T 0 root).map Prod.fst

theorem mk_init {l r : Nat → Nat} {L : Nat} {T : Nat → Nat → List (Nat × Nat)} (t : Trav l r L T) {root : Nat} (hr : Vx L root) (mk0 : Nat → Bool) (sk : Nat → Nat) : Mking L T root mk0 mk0 (upd sk 0 root) 1 := by
  have e : todo T (upd sk 0 root) 1 = (T 0 root).map Prod.fst := by rw [todo_upd]; rfl
  refine ⟨fun j hj => ?_, ?_, ?_, ?_, fun v _ h => .inl h⟩
  · obtain rfl : j = 0 := by omega
    rw [upd_same]; exact hr
  · rw [e, t.node 0 root hr]; simp; omega
  · rw [e]; simp
  · intro v _; rw [e]

/-- n numbers below n at most -/
theorem nodup_len : ∀ (n : Nat) (xs : List Nat), xs.Nodup → (∀ v ∈ xs, v < n) → xs.length ≤ n
  | 0, xs, _, h => by
    match xs with
    | [] => simp
    | a :: _ => exact absurd (h a (by simp)) (by omega)
  | n + 1, xs, hn, h => by
    by_cases hm : n ∈ xs
    · have h1 := nodup_len n (xs.erase n) (hn.erase n) (fun v hv => by
        rw [hn.mem_erase_iff] at hv
        have := h v hv.2
        have := hv.1
        omega)
      rw [List.length_erase_of_mem hm] at h1
      omega
    · have h1 := nodup_len n xs hn (fun v hv => by
        have h2 := h v hv
        have h3 : v ≠ n := fun e => hm (e ▸ hv)
        omega)
      omega

theorem vlen {l r u : Nat → Nat} {L : Nat} (h : OK l r u L) {T : Nat → Nat → List (Nat × Nat)} (t : Trav l r L T) {a : Nat} (ha : a < L) : (T 0 a).length ≤ L - 1 := by
  have h1 := t.nodup h a ha 0
  have h0 : 0 ∉ (T 0 a).map Prod.fst := by
    intro hm
    obtain ⟨⟨y, e⟩, hy, e0⟩ := List.mem_map.1 hm
    have := (t.mem h a ha 0 y e hy).1.1
    simp only at e0
    omega
  have h2 := nodup_len L (0 :: (T 0 a).map Prod.fst) (List.nodup_cons.2 ⟨h0, h1⟩) (fun v hv => by
    rw [List.mem_cons] at hv
    rcases hv with rfl | hv
    · omega
    · obtain ⟨⟨y, e⟩, hy, rfl⟩ := List.mem_map.1 hv
      exact (t.mem h a ha 0 y e hy).1.2)
  simp at h2
  omega

theorem len_pos {l r : Nat → Nat} {L : Nat} {T : Nat → Nat → List (Nat × Nat)} (t : Trav l r L T) {v : Nat} (hv : Vx L v) : 0 < (T 0 v).length := by
  rw [t.node 0 v hv]; simp; omega

theorem todo_len {l r : Nat → Nat} {L : Nat} {T : Nat → Nat → List (Nat × Nat)} (t : Trav l r L T) {sk : Nat → Nat} {k : Nat} (h : ∀ j, j < k → Vx L (sk j)) : k ≤ (todo T sk k).length := by
  induction k with
  | zero => simp
  | succ k ih =>
    have h1 := ih (fun j hj => h j (by omega))
    have h2 := len_pos t (h k (by omega))
    simp only [todo, List.length_append, List.length_map]
    omega

/-- the four ways of a round -/
theorem mk_round {l r u : Nat → Nat} {L : Nat} (h : OK l r u L) {T : Nat → Nat → List (Nat × Nat)} (t : Trav l r L T) {root : Nat} {mk0 mk : Nat → Bool} {sk : Nat → Nat} {top : Nat} (m : Mking L T root mk0 mk sk (top + 1)) (sk' : Nat → Nat) (top' : Nat)
    (hsk : ∀ j, j < top' → Vx L (sk' j)) (htodo : ∀ v, v ∈ todo T sk' top' ↔ v ∈ todo T sk top ∨ v ∈ (T 0 (l (sk top))).map Prod.fst ∨ v ∈ (T 0 (r (sk top))).map Prod.fst)
    (hlen : (todo T sk' top').length = (todo T sk top).length + (T 0 (l (sk top))).length + (T 0 (r (sk top))).length) (hle : top' ≤ (todo T sk' top').length) :
    Mking L T root mk0 (upd mk (sk top) true) sk' top' ∧ (todo T sk' top').length + 1 = (todo T sk (top + 1)).length := by
  have hv := m.vx top (by omega)
  have e : todo T sk (top + 1) = todo T sk top ++ ((T 0 (l (sk top))).map Prod.fst ++ sk top :: (T 0 (r (sk top))).map Prod.fst) := by
    simp only [todo]; rw [verts_node h t hv]
  have e2 : (todo T sk' top').length + 1 = (todo T sk (top + 1)).length := by rw [e, hlen]; simp; omega
  have hin : ∀ v, v ∈ todo T sk (top + 1) ↔ v = sk top ∨ v ∈ todo T sk' top' := by
    intro v
    rw [e, htodo v]
    simp only [List.mem_append, List.mem_cons]
    constructor
    · rintro (h1 | h1 | h1 | h1)
      · exact .inr (.inl h1)
      · exact .inr (.inr (.inl h1))
      · exact .inl h1
      · exact .inr (.inr (.inr h1))
    · rintro (h1 | h1 | h1 | h1)
      · exact .inr (.inr (.inl h1))
      · exact .inl h1
      · exact .inr (.inl h1)
      · exact .inr (.inr (.inr h1))
  refine ⟨⟨hsk, hle, by have := m.all; omega, ?_, ?_⟩, e2⟩
  · intro v hvL
    rw [← m.same v hvL, hin v]
    by_cases e3 : v = sk top
    · subst e3; rw [upd_same]; simp
    · rw [upd_other _ _ _ _ e3]; simp [e3]
  · intro v hvL hm
    by_cases e3 : v = sk top
    · subst e3
      exact (m.same _ hvL).1 (.inr ((hin _).2 (.inl rfl)))
    · rw [upd_other _ _ _ _ e3] at hm
      exact m.mono v hvL hm

/-! ### the walk -/

/-- nothing that was there has turned but block b -/
structure Only (b : Nat) (w w' : World) : Prop where
  os : w'.os = w.os
  tape : w'.tape = w.tape
  output : w'.output = w.output
  size : w.heap.size ≤ w'.heap.size
  block : ∀ k, k < w.heap.size → k ≠ b → w'.heap[k]? = w.heap[k]?

theorem Only.refl (b : Nat) (w : World) : Only b w w := ⟨rfl, rfl, rfl, Nat.le_refl _, fun _ _ _ => rfl⟩
theorem Only.trans {b : Nat} {w w1 w2 : World} (h : Only b w w1) (k : Only b w1 w2) : Only b w w2 :=
  ⟨k.os.trans h.os, k.tape.trans h.tape, k.output.trans h.output, Nat.le_trans h.size k.size, fun i hi hb => (k.block i (Nat.lt_of_lt_of_le hi h.size) hb).trans (h.block i hi hb)⟩
theorem Only.of_below {b : Nat} {w w1 : World} (h : Below w.heap.size w w1) : Only b w w1 := ⟨h.os, h.tape, h.output, h.size, fun k hk _ => h.block k hk⟩
theorem Only.setCell {b : Nat} {w w1 : World} (h : Only b w w1) {a : Addr} (ha : a.block = b ∨ w.heap.size ≤ a.block) (v : Value) : Only b w (w1.setCell a v) :=
  ⟨h.os, h.tape, h.output, by simpa [World.setCell] using h.size, fun k hk hb => (Below.heap_setCell _ _ _ _ (by rcases ha with h1 | h1 <;> omega)).trans (h.block k hk hb)⟩
theorem Only.row {b b' : Nat} {w w1 : World} {t : TypeId} {n : Nat} {f : Nat → Value} (h : Only b w w1) (hr : w.rowIs b' t n f) (hb : b' ≠ b) : w1.rowIs b' t n f := hr.of_block (h.block b' hr.lt hb)
theorem Only.below {b B : Nat} {w w1 w2 : World} (h1 : Below B w w1) (h2 : Only b w1 w2) (hb : B ≤ b) (hB : B ≤ w1.heap.size) : Below B w w2 :=
  h1.trans ⟨h2.os, h2.tape, h2.output, h2.size, fun k hk => h2.block k (by omega) (by omega)⟩

def MarkPost (w : World) (bm L : Nat) (S : List Nat) (mk0 : Nat → Bool) (e : Ending) (w' : World) : Prop :=
  e = .returned (.tuple #[]) ∧ ∃ mk : Nat → Bool, w'.rowIs bm 4 L (fun j => .bool (mk j)) ∧ (∀ v, v < L → (mk v = true ↔ mk0 v = true ∨ v ∈ S)) ∧ Only bm w w'

structure MkW (w wr : World) (bm L : Nat) (mk : Nat → Bool) (sk : Nat → Nat) : Prop where
  only : Only bm w wr
  size : w.heap.size < wr.heap.size
  rm : wr.rowIs bm 4 L (fun j => .bool (mk j))
  rs : wr.rowIs w.heap.size 21 L (fun j => .int .i32 (sk j))

theorem MkW.setM {w wr : World} {bm L : Nat} {mk : Nat → Bool} {sk : Nat → Nat} (h : MkW w wr bm L mk sk) (hb : bm < w.heap.size) (i : Nat) (v : Bool) : MkW w (wr.setCell ⟨bm, i, none⟩ (.bool v)) bm L (upd mk i v) sk :=
  ⟨h.only.setCell (.inl rfl) _, by simpa using h.size, row_upd (c := fun n : Bool => .bool n) h.rm v, h.rs.setOther (by show w.heap.size ≠ bm; omega) _⟩
theorem MkW.setS {w wr : World} {bm L : Nat} {mk : Nat → Bool} {sk : Nat → Nat} (h : MkW w wr bm L mk sk) (hb : bm < w.heap.size) (i v : Nat) : MkW w (wr.setCell ⟨w.heap.size, i, none⟩ (.int .i32 (v : Int))) bm L mk (upd sk i v) :=
  ⟨h.only.setCell (.inr (Nat.le_refl _)) _, by simpa using h.size, h.rm.setOther (by show bm ≠ w.heap.size; omega) _, row_upd (c := fun n : Nat => .int .i32 (n : Int)) h.rs v⟩

theorem mark14_zero (a0 a1 a3 : Option Addr) (n0 n1 n3 c0 c1 c3 bm L : Nat) (mk0 : Nat → Bool) (w : World) (hm : w.rowIs bm 4 L (fun j => .bool (mk0 j))) :
    Calls Try.prog 14 #[.slice a0 n0 c0, .slice a1 n1 c1, .int .i32 0, .slice a3 n3 c3] w fun e w' => MarkPost w bm L [] mk0 e w' := by
  go_enter Try.func14, Try.ntmps14
  go_wp2
  go_end0
  exact ⟨rfl, mk0, hm, fun v _ => by simp, Only.refl _ _⟩

set_option maxHeartbeats 4000000 in
set_option maxRecDepth 100000 in
theorem mark14 (p0 p1 L bm root : Nat) (zl zr : Nat → Int) (u : Nat → Nat) (T : Nat → Nat → List (Nat × Nat)) (mk0 : Nat → Bool) (w : World) (hL : L ≤ 65536) (hk : OK (nat zl) (nat zr) u L) (ht : Trav (nat zl) (nat zr) L T) (hr : Vx L root)
    (hrl : ∀ i, 0 < i → i < L → 0 ≤ zl i) (hrr : ∀ i, 0 < i → i < L → 0 ≤ zr i)
    (g0 : w.rowIs p0 21 L (fun i => .int .i32 (zl i))) (g1 : w.rowIs p1 21 L (fun i => .int .i32 (zr i))) (hm : w.rowIs bm 4 L (fun j => .bool (mk0 j))) (n0 : p0 ≠ bm) (n1 : p1 ≠ bm) :
    Calls Try.prog 14 #[.slice (some ⟨p0, 0, none⟩) L L, .slice (some ⟨p1, 0, none⟩) L L, .int .i32 (root : Int), .slice (some ⟨bm, 0, none⟩) L L] w fun e w' => MarkPost w bm L ((T 0 root).map Prod.fst) mk0 e w' := by
  have mk22 := run_make_row' (P := Try.prog) 22 21 (.int .i32 0) 4 Try.underlying22 Try.info21 rfl .i64 .i64 L (by omega) (by omega)
  have hr0 : ((root : Int) == 0) = false := by have := hr.1; simp; omega
  have hr1 := hr.1
  have hr2 := hr.2
  have hbm := hm.lt
  have hlen := vlen hk ht hr2
  have GG : Aside (w.rowIs p0 21 L (fun i => .int .i32 (zl i)) ∧ w.rowIs p1 21 L (fun i => .int .i32 (zr i))) := ⟨g0, g1⟩
  have hmade := (World.rowIs_made w (.int .i32 0) L 21)
  have hc0 := hmade.cell (i := 0) (by omega)
  have hW0 : Aside (MkW w (w.alloc (.cells (madeCells #[.int .i32 0] L) 21)) bm L mk0 (fun _ => 0)) := ⟨Only.of_below ((Below.refl _ _).alloc (Nat.le_refl _) _), by simp, hm.alloc _, hmade⟩
  clear hmade g0 g1
  have h0L : (0 : Int) < (L : Int) := by omega
  go_enter Try.func14, Try.ntmps14
  go_wp2
  clear mk22
  go_loopg [9] (T 0 root).length (fun g tt wr => ∃ (top : Nat) (mk : Nat → Bool) (sk : Nat → Nat), g = (todo T sk top).length ∧ tt = .int .i64 top ∧ MkW w wr bm L mk sk ∧ Mking L T root mk0 mk sk top)
  case atStart =>
    refine ⟨1, mk0, upd (fun _ => 0) 0 root, ?_, rfl, ?_, mk_init ht hr mk0 _⟩
    · rw [todo_upd]; simp [todo]
    · have h1 := hW0.out.setS hbm 0 root
      rw [World.setCell_alloc_at _ _ _ _ _ rfl] at h1
      exact h1
  case round =>
    obtain ⟨top, mk, sk, rfl, rfl, hW, hM⟩ := hrel
    match top, hM with
    | 0, hM =>
      have F : Aside (MarkPost w bm L ((T 0 root).map Prod.fst) mk0 (.returned (.tuple #[])) wr) := by
        refine ⟨rfl, mk, hW.rm, fun v hv => ?_, hW.only⟩
        have := hM.same v hv
        simpa [todo] using this
      clear hW hM
      go_wp2
      go_end0
      exact F.out
    | t + 1, hM =>
      have hv := hM.vx t (by omega)
      have hv1 := hv.1
      have hv2 := hv.2
      have ta := hM.all
      have tl := todo_len ht (k := t) (sk := sk) (fun j hj => hM.vx j (by omega))
      have tn : (todo T sk (t + 1)).length = (todo T sk t).length + (T 0 (sk t)).length := by simp [todo]
      have tv : (T 0 (sk t)).length = (T 0 (nat zl (sk t))).length + (T 0 (nat zr (sk t))).length + 1 := by
        have := congrArg List.length (verts_node hk ht hv); simp at this; omega
      have pl0 := hrl (sk t) hv1 hv2
      have pr0 := hrr (sk t) hv1 hv2
      have bl := hk.bl (sk t) hv
      have br := hk.br (sk t) hv
      have cs := hW.rs.cell (i := t) (by omega)
      have cm := hW.rm.cell hv2
      have fm := hW.rm.frozen (sk t)
      have fs := hW.rs.frozen t
      have fs' := hW.rs.frozen (t + 1)
      have cl := (hW.only.row GG.out.1 n0).cell hv2
      have cr := (hW.only.row GG.out.2 n1).cell hv2
      have lp0 := GG.out.1.lt
      have lp1 := GG.out.2.lt
      generalize hzl : zl (sk t) = lv at cl pl0
      generalize hzr : zr (sk t) = rv at cr pr0
      obtain ⟨ln, rfl⟩ := Int.eq_ofNat_of_zero_le pl0
      obtain ⟨rn, rfl⟩ := Int.eq_ofNat_of_zero_le pr0
      have el : nat zl (sk t) = ln := by simp only [nat]; rw [hzl]; simp
      have er : nat zr (sk t) = rn := by simp only [nat]; rw [hzr]; simp
      have E : Aside (nat zl (sk t) = ln ∧ nat zr (sk t) = rn) := ⟨el, er⟩
      rw [el] at bl tv
      rw [er] at br tv
      have N : Aside ((todo T sk (t + 1)).length = (todo T sk t).length + (T 0 (sk t)).length ∧ (T 0 (sk t)).length = (T 0 ln).length + (T 0 rn).length + 1 ∧ t ≤ (todo T sk t).length ∧ (todo T sk (t + 1)).length ≤ (T 0 root).length ∧ (T 0 root).length ≤ L - 1) := ⟨tn, tv, tl, ta, hlen⟩
      have tL : t < L := by omega
      have tz : (t : Int) < (L : Int) := by omega
      have A : Aside (MkW w wr bm L mk sk ∧ Mking L T root mk0 mk sk (t + 1)) := ⟨hW, hM⟩
      have svz : ((sk t : Nat) : Int) < (L : Int) := by omega
      clear hzl hzr el er hW hM tn tv tl ta hlen hW0 hc0 pl0 pr0 hv
      by_cases l0 : ln = 0
      · by_cases r0 : rn = 0
        · subst l0
          subst r0
          have hsk' : Aside (∀ j, j < t → Vx L (sk j)) := fun j hj => A.out.2.vx j (by omega)
          have R : Aside (Mking L T root mk0 (upd mk (sk t) true) sk t ∧ (todo T sk t).length + 1 = (todo T sk (t + 1)).length) :=
            mk_round hk ht A.out.2 sk t hsk'.out (fun v => by rw [E.out.1, E.out.2, ht.zero]; simp) (by rw [E.out.1, E.out.2, ht.zero]; simp) (todo_len ht hsk'.out)
          clear hsk'
          go_wp2
          go_roundg (todo T sk t).length
          case rel =>
            go_light
            exact ⟨t, upd mk (sk t) true, sk, rfl, by go_num, A.out.1.setM hbm (sk t) true, R.out.1⟩
          case measure => go_light; have := R.out.2; omega
        · subst l0
          have r0' : ((rn : Int) != 0) = true := by simp; omega
          have hsk' : Aside (∀ j, j < (t + 1) → Vx L ((upd sk t rn) j)) := fun j hj => by
              by_cases e : j = t
              · subst e; rw [upd_same]; exact ⟨by omega, br⟩
              · rw [upd_other _ _ _ _ e]; exact A.out.2.vx j (by omega)
          have R : Aside (Mking L T root mk0 (upd mk (sk t) true) (upd sk t rn) (t + 1) ∧ (todo T (upd sk t rn) (t + 1)).length + 1 = (todo T sk (t + 1)).length) :=
            mk_round hk ht A.out.2 (upd sk t rn) (t + 1) hsk'.out (fun v => by rw [E.out.1, E.out.2, ht.zero, todo_upd]; simp) (by rw [E.out.1, E.out.2, ht.zero, todo_upd]; simp) (todo_len ht hsk'.out)
          clear hsk'
          go_wp2
          go_roundg (todo T (upd sk t rn) (t + 1)).length
          case rel =>
            go_light
            exact ⟨(t + 1), upd mk (sk t) true, (upd sk t rn), rfl, by go_num, (A.out.1.setM hbm (sk t) true).setS hbm t rn, R.out.1⟩
          case measure => go_light; have := R.out.2; omega
      · by_cases r0 : rn = 0
        · have l0' : ((ln : Int) != 0) = true := by simp; omega
          subst r0
          have hsk' : Aside (∀ j, j < (t + 1) → Vx L ((upd sk t ln) j)) := fun j hj => by
              by_cases e : j = t
              · subst e; rw [upd_same]; exact ⟨by omega, bl⟩
              · rw [upd_other _ _ _ _ e]; exact A.out.2.vx j (by omega)
          have R : Aside (Mking L T root mk0 (upd mk (sk t) true) (upd sk t ln) (t + 1) ∧ (todo T (upd sk t ln) (t + 1)).length + 1 = (todo T sk (t + 1)).length) :=
            mk_round hk ht A.out.2 (upd sk t ln) (t + 1) hsk'.out (fun v => by rw [E.out.1, E.out.2, ht.zero, todo_upd]; simp) (by rw [E.out.1, E.out.2, ht.zero, todo_upd]; simp) (todo_len ht hsk'.out)
          clear hsk'
          go_wp2
          go_roundg (todo T (upd sk t ln) (t + 1)).length
          case rel =>
            go_light
            exact ⟨(t + 1), upd mk (sk t) true, (upd sk t ln), rfl, by go_num, (A.out.1.setM hbm (sk t) true).setS hbm t ln, R.out.1⟩
          case measure => go_light; have := R.out.2; omega
        · have l0' : ((ln : Int) != 0) = true := by simp; omega
          have r0' : ((rn : Int) != 0) = true := by simp; omega
          have q1 := len_pos ht (v := ln) ⟨by omega, bl⟩
          have q2 := len_pos ht (v := rn) ⟨by omega, br⟩
          have t1L : t + 1 < L := by have := N.out; omega
          have cs1 := A.out.1.rs.cell (i := t + 1) t1L
          have t1z : (t : Int) + 1 < (L : Int) := by omega
          clear q1 q2
          have hsk' : Aside (∀ j, j < (t + 1 + 1) → Vx L ((upd (upd sk t ln) (t + 1) rn) j)) := fun j hj => by
              by_cases e1 : j = t + 1
              · subst e1; rw [upd_same]; exact ⟨by omega, br⟩
              · rw [upd_other _ _ _ _ e1]
                by_cases e : j = t
                · subst e; rw [upd_same]; exact ⟨by omega, bl⟩
                · rw [upd_other _ _ _ _ e]; exact A.out.2.vx j (by omega)
          have R : Aside (Mking L T root mk0 (upd mk (sk t) true) (upd (upd sk t ln) (t + 1) rn) (t + 1 + 1) ∧ (todo T (upd (upd sk t ln) (t + 1) rn) (t + 1 + 1)).length + 1 = (todo T sk (t + 1)).length) :=
            mk_round hk ht A.out.2 (upd (upd sk t ln) (t + 1) rn) (t + 1 + 1) hsk'.out (fun v => by rw [E.out.1, E.out.2, todo_upd, todo_upd]; simp) (by rw [E.out.1, E.out.2, todo_upd, todo_upd]; simp; omega) (todo_len ht hsk'.out)
          clear hsk'
          go_wp2
          go_roundg (todo T (upd (upd sk t ln) (t + 1) rn) (t + 1 + 1)).length
          case rel =>
            go_light
            exact ⟨(t + 1 + 1), upd mk (sk t) true, (upd (upd sk t ln) (t + 1) rn), rfl, by go_num, ((A.out.1.setM hbm (sk t) true).setS hbm t ln).setS hbm (t + 1) rn, R.out.1⟩
          case measure => go_light; have := R.out.2; omega
end Go.Proofs.Qxb6602963a
