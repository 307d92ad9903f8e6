import Derived.Test.Qxb6602963aG6
import Derived.Test.Qxb6602963aSq
namespace Go.Proofs.Qxb6602963a
open Go.RowKit
set_option linter.unusedVariables false

/-- the blocks that eval works on are apart, and below base -/
structure Ed (base vA vC vS vL bA bS bL : Nat) : Prop where
  AC : vA ≠ vC
  SC : vS ≠ vC
  LC : vL ≠ vC
  bAC : bA ≠ vC
  bSC : bS ≠ vC
  bLC : bL ≠ vC
  AbA : vA ≠ bA
  SbA : vS ≠ bA
  LbA : vL ≠ bA
  bSA : bS ≠ bA
  bLA : bL ≠ bA
  AbL : vA ≠ bL
  SbL : vS ≠ bL
  LbL : vL ≠ bL
  bSL : bS ≠ bL
  lt : vA < base ∧ vC < base ∧ vS < base ∧ vL < base ∧ bA < base ∧ bS < base ∧ bL < base

/-- eval's memory -/
structure EM (wr : World) (base vA vC vS vL bA bS bL m : Nat) (anc : Nat → Int) (sm lab : Nat → Nat) : Prop where
  cA : wr.heap[vA]? = some (.cells #[.slice (some ⟨bA, 0, none⟩) m m] 22 (0, 0))
  cS : wr.heap[vS]? = some (.cells #[.slice (some ⟨bS, 0, none⟩) m m] 22 (0, 0))
  cL : wr.heap[vL]? = some (.cells #[.slice (some ⟨bL, 0, none⟩) m m] 22 (0, 0))
  cC : ∃ vch k xs, wr.heap[vC]? = some (.cells #[vch] 22 (0, 0)) ∧ wr.ownsRow base 21 1 vch k xs
  aA : Arr wr bA m anc
  aS : Arr wr bS m (fun i => (sm i : Int))
  aL : Arr wr bL m (fun i => (lab i : Int))
  sz : base ≤ wr.heap.size

/-- nothing below base has turned but three blocks -/
structure Tn (base vC bA bL : Nat) (w w' : World) : Prop where
  os : w'.os = w.os
  tape : w'.tape = w.tape
  output : w'.output = w.output
  size : w.heap.size ≤ w'.heap.size
  block : ∀ k, k < base → k ≠ vC → k ≠ bA → k ≠ bL → w'.heap[k]? = w.heap[k]?

def EvalPost (base vA vC vS vL bA bS bL m L : Nat) (par sm : Nat → Nat) (v : Nat) (w : World) (e : Ending) (w' : World) : Prop :=
  ∃ (u : Nat) (anc : Nat → Int) (lab : Nat → Nat), e = .returned (.int .i32 (u : Int)) ∧ u < m ∧ EvalOk L par sm v u ∧ Forest m L par sm anc lab ∧ EM w' base vA vC vS vL bA bS bL m anc sm lab ∧ Tn base vC bA bL w w' ∧ ∀ i, i < m → -1 ≤ anc i ∧ anc i < m ∧ lab i < m

theorem cell_of_one {w : World} {b : Nat} {v : Value} {t : TypeId} (h : w.heap[b]? = some (.cells #[v] t (0, 0))) : w.cell? ⟨b, 0, none⟩ = some v := by simp [World.cell?, h]
theorem frozen_of_one {w : World} {b : Nat} {v : Value} {t : TypeId} (h : w.heap[b]? = some (.cells #[v] t (0, 0))) : w.frozen? ⟨b, 0, none⟩ = false := by simp [World.frozen?, h]

/-- an own slice's form -/
theorem owns_form {w : World} {base k : Nat} {v : Value} {xs : List Value} (h : w.ownsRow base 21 1 v k xs) : ∃ a c, v = .slice a k c := by
  rcases h.2 with ⟨rfl, rfl⟩ | ⟨g, cap, cur, rfl, _⟩
  · exact ⟨_, _, rfl⟩
  · exact ⟨_, _, rfl⟩

/-- the empty head of an own slice -/
theorem slice_empty {w : World} {base k : Nat} {v : Value} {xs : List Value} (h : w.ownsRow base 21 1 v k xs) : ∃ a c, (∀ w1, (Instr.sliceAt 22 v none (some (.int .i64 0)) none).run Try.prog w1 = .ok (.slice a 0 c) w1) ∧ (∀ w1 : World, w1.ownsRow base 21 1 v k xs → w1.ownsRow base 21 1 (.slice a 0 c) 0 []) ∧ (Value.slice a 0 c).ownBlock = v.ownBlock := by
  have hu : Try.prog.underlying 22 = some (.slice (Try.prog.elem 22)) := by kernel_rfl
  have e2 : Try.prog.elem 22 = 21 := by kernel_rfl
  rcases h.2 with ⟨rfl, _⟩ | ⟨g, cap, cur, rfl, _⟩
  · refine ⟨none, 0, fun w1 => ?_, fun w1 _ => World.ownsRow_nil _ _ _ _, rfl⟩
    rw [run_sliceAt_slice _ _ _ _ _ _ hu, run_slice_h (P := Try.prog) w1 22 none 0 0 hu .i64 0 (by omega) (by omega), e2, Try.sizeOf21]
    simp [sliced]
  · refine ⟨some ⟨g, 0, none⟩, cap, fun w1 => ?_, fun w1 h1 => owns_pop h1 0 (Nat.zero_le _) (by simp), rfl⟩
    have := slice_head g k cap 0 (Nat.zero_le _) w1
    simpa using this

/-- eval's memory, the chain laid open -/
structure EQ (w wr : World) (base vA vC vS vL bA bS bL m : Nat) (anc : Nat → Int) (sm lab : Nat → Nat) (vch : Value) (k : Nat) (xs : List Value) : Prop where
  cA : wr.heap[vA]? = some (.cells #[.slice (some ⟨bA, 0, none⟩) m m] 22 (0, 0))
  cS : wr.heap[vS]? = some (.cells #[.slice (some ⟨bS, 0, none⟩) m m] 22 (0, 0))
  cL : wr.heap[vL]? = some (.cells #[.slice (some ⟨bL, 0, none⟩) m m] 22 (0, 0))
  cC : wr.heap[vC]? = some (.cells #[vch] 22 (0, 0))
  own : wr.ownsRow base 21 1 vch k xs
  aA : Arr wr bA m anc
  aS : Arr wr bS m (fun i => (sm i : Int))
  aL : Arr wr bL m (fun i => (lab i : Int))
  sz : base ≤ wr.heap.size
  tn : Tn base vC bA bL w wr

section
variable {w wr : World} {base vA vC vS vL bA bS bL m k : Nat} {anc : Nat → Int} {sm lab : Nat → Nat} {vch : Value} {xs : List Value}

theorem EQ.em (h : EQ w wr base vA vC vS vL bA bS bL m anc sm lab vch k xs) : EM wr base vA vC vS vL bA bS bL m anc sm lab := ⟨h.cA, h.cS, h.cL, ⟨vch, k, xs, h.cC, h.own⟩, h.aA, h.aS, h.aL, h.sz⟩

/-- the chain turned, and nothing else below base -/
theorem EQ.turn (D : Ed base vA vC vS vL bA bS bL) (h : EQ w wr base vA vC vS vL bA bS bL m anc sm lab vch k xs) {w2 : World} {vch' : Value} {k' : Nat} {xs' : List Value} (ho : w2.os = wr.os) (ht : w2.tape = wr.tape) (hp : w2.output = wr.output) (hs : wr.heap.size ≤ w2.heap.size)
    (hb : ∀ i, i < base → i ≠ vC → w2.heap[i]? = wr.heap[i]?) (hC : w2.heap[vC]? = some (.cells #[vch'] 22 (0, 0))) (hown : w2.ownsRow base 21 1 vch' k' xs') : EQ w w2 base vA vC vS vL bA bS bL m anc sm lab vch' k' xs' := by
  obtain ⟨l1, l2, l3, l4, l5, l6, l7⟩ := D.lt
  exact ⟨(hb _ l1 D.AC).trans h.cA, (hb _ l3 D.SC).trans h.cS, (hb _ l4 D.LC).trans h.cL, hC, hown, h.aA.of_block (hb _ l5 D.bAC), h.aS.of_block (hb _ l6 D.bSC), h.aL.of_block (hb _ l7 D.bLC), by have := h.sz; omega,
    ⟨ho.trans h.tn.os, ht.trans h.tn.tape, hp.trans h.tn.output, by have := h.tn.size; omega, fun i hi h1 h2 h3 => (hb i hi h1).trans (h.tn.block i hi h1 h2 h3)⟩⟩

theorem EQ.setA (D : Ed base vA vC vS vL bA bS bL) (h : EQ w wr base vA vC vS vL bA bS bL m anc sm lab vch k xs) (i : Nat) (v : Int) : EQ w (wr.setCell ⟨bA, i, none⟩ (.int .i32 v)) base vA vC vS vL bA bS bL m (updN anc i v) sm lab vch k xs := by
  obtain ⟨l1, l2, l3, l4, l5, l6, l7⟩ := D.lt
  have hb : ∀ j, j ≠ bA → (wr.setCell ⟨bA, i, none⟩ (.int .i32 v)).heap[j]? = wr.heap[j]? := fun j hj => Below.heap_setCell _ _ _ _ hj
  exact ⟨(hb _ D.AbA).trans h.cA, (hb _ D.SbA).trans h.cS, (hb _ D.LbA).trans h.cL, (hb _ (Ne.symm D.bAC)).trans h.cC,
    h.own.kept (row := some bA) ⟨rfl, rfl, rfl, by simp, fun j hj hne => hb j (fun e => hne (congrArg some e))⟩ (by
      rcases hv : vch.ownBlock with _ | g
      · exact .inl rfl
      · refine .inr fun e => ?_
        have := (h.own.lt g hv).1
        cases e; omega), h.aA.upd i v, h.aS.of_block (hb _ D.bSA), h.aL.of_block (hb _ D.bLA), by simpa using h.sz,
    ⟨h.tn.os, h.tn.tape, h.tn.output, by simpa using h.tn.size, fun j hj h1 h2 h3 => (hb j h2).trans (h.tn.block j hj h1 h2 h3)⟩⟩

theorem EQ.setL (D : Ed base vA vC vS vL bA bS bL) (h : EQ w wr base vA vC vS vL bA bS bL m anc sm lab vch k xs) (i v : Nat) : EQ w (wr.setCell ⟨bL, i, none⟩ (.int .i32 (v : Int))) base vA vC vS vL bA bS bL m anc sm (updN lab i v) vch k xs := by
  obtain ⟨l1, l2, l3, l4, l5, l6, l7⟩ := D.lt
  have hb : ∀ j, j ≠ bL → (wr.setCell ⟨bL, i, none⟩ (.int .i32 (v : Int))).heap[j]? = wr.heap[j]? := fun j hj => Below.heap_setCell _ _ _ _ hj
  exact ⟨(hb _ D.AbL).trans h.cA, (hb _ D.SbL).trans h.cS, (hb _ D.LbL).trans h.cL, (hb _ (Ne.symm D.bLC)).trans h.cC,
    h.own.kept (row := some bL) ⟨rfl, rfl, rfl, by simp, fun j hj hne => hb j (fun e => hne (congrArg some e))⟩ (by
      rcases hv : vch.ownBlock with _ | g
      · exact .inl rfl
      · refine .inr fun e => ?_
        have := (h.own.lt g hv).1
        cases e; omega), h.aA.of_block (hb _ (Ne.symm D.bLA)), h.aS.of_block (hb _ D.bSL), (h.aL.upd i v).congr (fun j _ => by
        by_cases e : j = i
        · subst e; rw [updN_same, updN_same]
        · rw [updN_ne _ _ e, updN_ne _ _ e]), by simpa using h.sz,
    ⟨h.tn.os, h.tn.tape, h.tn.output, by simpa using h.tn.size, fun j hj h1 h2 h3 => (hb j h3).trans (h.tn.block j hj h1 h2 h3)⟩⟩
theorem EQ.drewN (h : EQ w wr base vA vC vS vL bA bS bL m anc sm lab vch k xs) (q : Nat) : EQ w (wr.drewN q) base vA vC vS vL bA bS bL m anc sm lab vch k xs :=
  ⟨h.cA, h.cS, h.cL, h.cC, h.own.kept (row := none) ⟨rfl, rfl, rfl, Nat.le_refl _, fun _ _ _ => rfl⟩ (by cases hv : vch.ownBlock <;> simp), h.aA, h.aS, h.aL, h.sz, ⟨h.tn.os, h.tn.tape, h.tn.output, h.tn.size, h.tn.block⟩⟩
theorem EQ.drew (h : EQ w wr base vA vC vS vL bA bS bL m anc sm lab vch k xs) : EQ w wr.drew base vA vC vS vL bA bS bL m anc sm lab vch k xs :=
  ⟨h.cA, h.cS, h.cL, h.cC, h.own.kept (row := none) ⟨rfl, rfl, rfl, Nat.le_refl _, fun _ _ _ => rfl⟩ (by cases hv : vch.ownBlock <;> simp), h.aA, h.aS, h.aL, h.sz, ⟨h.tn.os, h.tn.tape, h.tn.output, h.tn.size, h.tn.block⟩⟩
end

/-- the chain's cells -/
def chV (anc : Nat → Int) (v i : Nat) : List Value := (List.range i).map fun t => .int .i32 (cs anc v t : Int)

set_option maxHeartbeats 4000000 in
set_option maxRecDepth 100000 in
theorem eval31 (base vA vC vS vL bA bS bL m L v : Nat) (par : Nat → Nat) (E : Nat → Nat → Prop) (anc : Nat → Int) (sm lab : Nat → Nat) (w : World) (T : Tree m par E) (hm : m ≤ 4096) (hv : v < m) (D : Ed base vA vC vS vL bA bS bL) (F : Forest m L par sm anc lab) (M : EM w base vA vC vS vL bA bS bL m anc sm lab)
    (hb : ∀ i, i < m → -1 ≤ anc i ∧ anc i < m ∧ lab i < m) (hsm : ∀ i, i < m → sm i < m) :
    Calls Try.prog 31 #[.int .i32 v, .pointer (some ⟨vA, 0, none⟩), .pointer (some ⟨vC, 0, none⟩), .pointer (some ⟨vS, 0, none⟩), .pointer (some ⟨vL, 0, none⟩)] w fun e w' => EvalPost base vA vC vS vL bA bS bL m L par sm v w e w' := by
  have cA := cell_of_one M.cA
  by_cases hvL : v < L
  · have g1 : w.cell? ⟨bA, v, none⟩ = some (.int .i32 (-1)) := by have := M.aA.cell hv; rw [(F.low v hvL hv).1] at this; exact this
    have HM : Aside (EvalPost base vA vC vS vL bA bS bL m L par sm v w (.returned (.int .i32 (v : Int))) w) := ⟨v, anc, lab, rfl, hv, .inl ⟨hvL, rfl⟩, F, M, ⟨rfl, rfl, rfl, Nat.le_refl _, fun _ _ _ _ _ => rfl⟩, hb⟩
    clear F M hb hsm T
    go_enter Try.func31, Try.ntmps31
    go_wp2
    go_ret
    exact HM.out
  · obtain ⟨a0, ha0, _⟩ := F.high v (by omega) hv
    have g1 : w.cell? ⟨bA, v, none⟩ = some (.int .i32 (a0 : Int)) := by rw [← ha0]; exact M.aA.cell hv
    obtain ⟨vch, kch, xch, hC, hch⟩ := M.cC
    have gC := cell_of_one hC
    have gCf := frozen_of_one hC
    obtain ⟨av, cv, hsl, hsl2, hob⟩ := slice_empty hch
    have HM : Aside (Tree m par E ∧ Ed base vA vC vS vL bA bS bL ∧ Forest m L par sm anc lab ∧ EM w base vA vC vS vL bA bS bL m anc sm lab ∧ (∀ i, i < m → -1 ≤ anc i ∧ anc i < m ∧ lab i < m) ∧ (∀ i, i < m → sm i < m) ∧ w.heap[vC]? = some (.cells #[vch] 22 (0, 0)) ∧ w.ownsRow base 21 1 (.slice av 0 cv) 0 []) := ⟨T, D, F, M, hb, hsm, hC, hsl2 w hch⟩
    have hvC : vA ≠ vC := D.AC
    clear T D F M hb hsm hC hch hsl2 hob ha0
    have Q0 : Aside (EQ w (w.setCell ⟨vC, 0, none⟩ (.slice av 0 cv)) base vA vC vS vL bA bS bL m anc sm lab (.slice av 0 cv) 0 []) := by
      obtain ⟨T, D, F, M, hb, hsm, hC, hown⟩ := HM.out
      have h0 : EQ w w base vA vC vS vL bA bS bL m anc sm lab (.slice av 0 cv) 0 [] → True := fun _ => trivial
      have hbk : ∀ j, j ≠ vC → (w.setCell ⟨vC, 0, none⟩ (.slice av 0 cv)).heap[j]? = w.heap[j]? := fun j hj => Below.heap_setCell _ _ _ _ hj
      have hC2 : (w.setCell ⟨vC, 0, none⟩ (.slice av 0 cv)).heap[vC]? = some (.cells #[.slice av 0 cv] 22 (0, 0)) := (Go.heap_setCell_same _ _ _ _ _ _ hC).trans rfl
      obtain ⟨l1, l2, l3, l4, l5, l6, l7⟩ := D.lt
      exact ⟨(hbk _ D.AC).trans M.cA, (hbk _ D.SC).trans M.cS, (hbk _ D.LC).trans M.cL, hC2, hown.kept (row := some vC) ⟨rfl, rfl, rfl, by simp, fun j hj hne => hbk j (fun e => hne (congrArg some e))⟩ (by
        rcases hv : (Value.slice av 0 cv).ownBlock with _ | g
        · exact .inl rfl
        · refine .inr fun e => ?_
          have := (hown.lt g hv).1
          cases e; omega), M.aA.of_block (hbk _ D.bAC), M.aS.of_block (hbk _ D.bSC), M.aL.of_block (hbk _ D.bLC), by simpa using M.sz, ⟨rfl, rfl, rfl, by simp, fun j _ h1 _ _ => hbk j h1⟩⟩
    go_enter Try.func31, Try.ntmps31
    go_wp2
    clear cA g1 gC gCf hsl
    generalize w.setCell ⟨vC, 0, none⟩ (.slice av 0 cv) = wr at Q0 ⊢
    go_loopg [7] v (fun g s7 wr => ∃ (i : Nat) (vch : Value), g = cs anc v i + 0 ∧ s7 = .int .i32 (cs anc v i : Int) ∧ Wy m L anc v i ∧ EQ w wr base vA vC vS vL bA bS bL m anc sm lab vch i (chV anc v i))
    case atStart => exact ⟨0, _, rfl, rfl, Wy.start (by omega) hv, Q0.out⟩
    case round =>
      clear Q0
      obtain ⟨i, vch, hgi, rfl, hW, hQ⟩ := hrel
      obtain ⟨T, D, F, M, hb, hsm, _, _⟩ := HM.out
      obtain ⟨hx1, hx2⟩ := hW.lo i (Nat.le_refl _)
      obtain ⟨x, hx⟩ : ∃ x, x = cs anc v i := ⟨_, rfl⟩
      obtain ⟨a, ha, halt, _⟩ := F.high _ hx1 hx2
      obtain ⟨b, hb0⟩ : ∃ b, b = anc a := ⟨_, rfl⟩
      have ham : a < m := by omega
      have hbb := hb a ham
      rw [← hb0] at hbb
      have hxm : x < m := by rw [hx]; exact hx2
      have cA := cell_of_one hQ.cA
      have gx : wr.cell? ⟨bA, x, none⟩ = some (.int .i32 (a : Int)) := by rw [hx, ← ha]; exact hQ.aA.cell hx2
      have ga : wr.cell? ⟨bA, a, none⟩ = some (.int .i32 b) := by rw [hb0]; exact hQ.aA.cell ham
      obtain ⟨ac, cc, hform⟩ := owns_form hQ.own
      subst hform
      have gC := cell_of_one hQ.cC
      have gCf := frozen_of_one hQ.cC
      rw [← hx]
      by_cases hneg : b < 0
      · have haL : a < L := by
          rcases Nat.lt_or_ge a L with c | c
          · exact c
          · obtain ⟨r, hr, _⟩ := F.high a c ham; omega
        have A : Aside (Wy m L anc v i ∧ EQ w wr base vA vC vS vL bA bS bL m anc sm lab (.slice ac i cc) i (chV anc v i) ∧ anc (cs anc v i) = (a : Int) ∧ a < L) := ⟨hW, hQ, ha, haL⟩
        clear T D F M hb hsm hW hQ hx ha hb0 haL
        go_wp2
        go_quiet (fail)
        have A1 : Aside (Wy m L anc v i ∧ EQ w (wr.drewN nq) base vA vC vS vL bA bS bL m anc sm lab (.slice ac i cc) i (chV anc v i) ∧ anc (cs anc v i) = (a : Int) ∧ a < L) := ⟨A.out.1, A.out.2.1.drewN _, A.out.2.2⟩
        clear A cA gx ga gC gCf
        generalize wr.drewN nq = wr at A1 ⊢
        have gC := cell_of_one A1.out.2.1.cC
        have hil : i ≤ 9223372036854775807 := owns_len A1.out.2.1.own
        go_wp2
        clear gC
        obtain ⟨wo2, hwo2⟩ : ∃ wo : World, wo = wr := ⟨_, rfl⟩
        go_loopg [8] i (fun g s8 wr => ∃ (k : Nat) (anc' : Nat → Int) (lab' : Nat → Nat), g = k + 0 ∧ s8 = .int .i64 ((k : Int) - 1) ∧ Sq m L par sm (cs anc v) i a k anc' lab' ∧ EQ w wr base vA vC vS vL bA bS bL m anc' sm lab' (.slice ac i cc) i (chV anc v i) ∧ ∀ j, j < m → -1 ≤ anc' j ∧ anc' j < m ∧ lab' j < m)
        case atStart => exact ⟨i, anc, lab, rfl, by first | rfl | (congr 1; omega), Sq.start HM.out.2.2.1 A1.out.1 A1.out.2.2.1 A1.out.2.2.2, A1.out.2.1, HM.out.2.2.2.2.1⟩
        case round =>
          clear hwo2
          have HA : Aside (Wy m L anc v i ∧ a < L) := ⟨A1.out.1, A1.out.2.2.2⟩
          clear A1
          obtain ⟨k, anc', lab', hgk, rfl, hSq, hQ, hb'⟩ := hrel
          cases k with
          | zero =>
            have hok := hSq.done HM.out.1
            have cL := cell_of_one hQ.cL
            obtain ⟨u, hu⟩ : ∃ u, u = lab' v := ⟨_, rfl⟩
            have gl : wr.cell? ⟨bL, v, none⟩ = some (.int .i32 (u : Int)) := by rw [hu]; exact hQ.aL.cell hv
            have B : Aside (EvalOk L par sm v u ∧ Forest m L par sm anc' lab' ∧ EQ w wr base vA vC vS vL bA bS bL m anc' sm lab' (.slice ac i cc) i (chV anc v i) ∧ (∀ j, j < m → -1 ≤ anc' j ∧ anc' j < m ∧ lab' j < m) ∧ u < m) := ⟨by rw [hu]; exact hok, hSq.forest, hQ, hb', by rw [hu]; exact (hb' v hv).2.2⟩
            clear hSq hQ hb' hok hu
            go_wp2
            go_ret
            exact ⟨u, anc', lab', rfl, B.out.2.2.2.2, B.out.1, B.out.2.1, B.out.2.2.1.em, B.out.2.2.1.tn, B.out.2.2.2.1⟩
          | succ k =>
            obtain ⟨hl, hst⟩ := hSq.step HM.out.1
            obtain ⟨x1, hx1e⟩ : ∃ x1, x1 = cs anc v k := ⟨_, rfl⟩
            obtain ⟨y, hy⟩ : ∃ y, y = cs anc v (k + 1) := ⟨_, rfl⟩
            have hkn := hSq.kn
            have hx1m : x1 < m := by rw [hx1e]; exact (hSq.lo k (by omega)).2
            have hym : y < m := by rw [hy]; exact (hSq.lo (k + 1) hkn).2
            have hxy : x1 ≠ y := by have := hSq.lt k (k + 1) (by omega) hkn; omega
            rw [← hx1e, ← hy] at hst hl
            obtain ⟨lx, hlx⟩ : ∃ lx, lx = lab' x1 := ⟨_, rfl⟩
            obtain ⟨ly, hly⟩ : ∃ ly, ly = lab' y := ⟨_, rfl⟩
            have hlxm : lx < m := by rw [hlx]; exact (hb' x1 hx1m).2.2
            have hlym : ly < m := by rw [hly]; exact (hb' y hym).2.2
            obtain ⟨sx, hsx⟩ : ∃ sx, sx = sm lx := ⟨_, rfl⟩
            obtain ⟨sy, hsy⟩ : ∃ sy, sy = sm ly := ⟨_, rfl⟩
            have hroot : anc' y = (a : Int) := by rw [hy]; exact hSq.root
            have cA := cell_of_one hQ.cA
            have cS := cell_of_one hQ.cS
            have cL := cell_of_one hQ.cL
            have cC := cell_of_one hQ.cC
            have hgx : wr.cell? ⟨bA, x1, none⟩ = some (.int .i32 (y : Int)) := by rw [← hl]; exact hQ.aA.cell hx1m
            have hgxf : wr.frozen? ⟨bA, x1, none⟩ = false := hQ.aA.frozen _
            have hgy : wr.cell? ⟨bA, y, none⟩ = some (.int .i32 (a : Int)) := by rw [← hroot]; exact hQ.aA.cell hym
            have hglx : wr.cell? ⟨bL, x1, none⟩ = some (.int .i32 (lx : Int)) := by rw [hlx]; exact hQ.aL.cell hx1m
            have hglxf : wr.frozen? ⟨bL, x1, none⟩ = false := hQ.aL.frozen _
            have hgly : wr.cell? ⟨bL, y, none⟩ = some (.int .i32 (ly : Int)) := by rw [hly]; exact hQ.aL.cell hym
            have hgsx : wr.cell? ⟨bS, lx, none⟩ = some (.int .i32 (sx : Int)) := by rw [hsx]; exact hQ.aS.cell hlxm
            have hgsy : wr.cell? ⟨bS, ly, none⟩ = some (.int .i32 (sy : Int)) := by rw [hsy]; exact hQ.aS.cell hlym
            have hch : wr.cell? ⟨(match ac with | some p => p.block | none => 0), k, none⟩ = some (.int .i32 (x1 : Int)) ∧ ∃ gch, ac = some ⟨gch, 0, none⟩ := by
              obtain ⟨gch, cap, e, h1, h2, h3⟩ := arr_owns hQ.own (by omega) (fun t => (cs anc v t : Int)) (fun t ht => by unfold chV; rw [List.getElem?_map, List.getElem?_range (by omega)]; rfl)
              cases e
              exact ⟨by rw [hx1e]; exact h3.cell (by omega), gch, rfl⟩
            obtain ⟨hch1, gch, rfl⟩ := hch
            simp only at hch1
            have hik : k < i := by omega
            have B : Aside (EQ w wr base vA vC vS vL bA bS bL m anc' sm lab' (.slice (some ⟨gch, 0, none⟩) i cc) i (chV anc v i) ∧ (∀ j, j < m → -1 ≤ anc' j ∧ anc' j < m ∧ lab' j < m) ∧ Sq m L par sm (cs anc v) i a k (updN anc' x1 (a : Int)) (updN lab' x1 (if sy < sx then ly else lx)) ∧ lx = lab' x1) := ⟨hQ, hb', by rw [hsx, hsy, hlx, hly]; exact hst, hlx⟩
            have ham2 : a < m := ham
            have hbne : bL ≠ bA := HM.out.2.1.bLA
            have hd1 : bA ≠ bL := Ne.symm hbne
            have hn3 : vA ≠ bL := HM.out.2.1.AbL
            clear hQ hb' hSq hst hl hx1e hy hlx hly hsx hsy hroot
            have hxm1 : wr.cell? ⟨bA, x1, none⟩ = some (.int .i32 (y : Int)) := hgx
            by_cases hlt : sy < sx
            · go_wp2
              go_quiet (fail)
              have B1 : Aside (EQ w (wr.drewN nq) base vA vC vS vL bA bS bL m anc' sm lab' (.slice (some ⟨gch, 0, none⟩) i cc) i (chV anc v i)) := B.out.1.drewN _
              have e1 : (wr.drewN nq).cell? ⟨vL, 0, none⟩ = some (.slice (some ⟨bL, 0, none⟩) m m) := cL
              have e2 : (wr.drewN nq).cell? ⟨bL, y, none⟩ = some (.int .i32 (ly : Int)) := hgly
              have e3 : (wr.drewN nq).cell? ⟨bL, x1, none⟩ = some (.int .i32 (lx : Int)) := hglx
              have e4 : (wr.drewN nq).frozen? ⟨bL, x1, none⟩ = false := hglxf
              have e5 : (wr.drewN nq).cell? ⟨vA, 0, none⟩ = some (.slice (some ⟨bA, 0, none⟩) m m) := cA
              have e6 : (wr.drewN nq).cell? ⟨bA, y, none⟩ = some (.int .i32 (a : Int)) := hgy
              have e7 : (wr.drewN nq).cell? ⟨bA, x1, none⟩ = some (.int .i32 (y : Int)) := hgx
              have e8 : (wr.drewN nq).frozen? ⟨bA, x1, none⟩ = false := hgxf
              clear cA cS cL cC hgx hgxf hgy hglx hglxf hgly hgsx hgsy hch1 hxm1
              generalize wr.drewN nq = wr at B1 e1 e2 e3 e4 e5 e6 e7 e8 ⊢
              go_wp2
              go_region
              all_goals go_wp2
              all_goals go_region
              all_goals go_wp2
              go_roundg k
              case rel =>
                go_light
                refine ⟨k, updN anc' x1 (a : Int), updN lab' x1 ly, rfl, by first | rfl | (congr 1; omega), by have := B.out.2.2.1; rw [if_pos hlt] at this; exact this, ?_, fun j hj => ?_⟩
                · exact (((B1.out.setL HM.out.2.1 x1 ly).setA HM.out.2.1 x1 (a : Int)).drew).drew
                · have h := B.out.2.1 j hj
                  refine ⟨?_, ?_, ?_⟩
                  · by_cases e : j = x1
                    · subst e; rw [updN_same]; omega
                    · rw [updN_ne _ _ e]; exact h.1
                  · by_cases e : j = x1
                    · subst e; rw [updN_same]; omega
                    · rw [updN_ne _ _ e]; exact h.2.1
                  · by_cases e : j = x1
                    · subst e; rw [updN_same]; exact hlym
                    · rw [updN_ne _ _ e]; exact h.2.2
              case measure => go_light; omega
            · go_wp2
              go_quiet (fail)
              have B1 : Aside (EQ w (wr.drewN nq) base vA vC vS vL bA bS bL m anc' sm lab' (.slice (some ⟨gch, 0, none⟩) i cc) i (chV anc v i)) := B.out.1.drewN _
              have e5 : (wr.drewN nq).cell? ⟨vA, 0, none⟩ = some (.slice (some ⟨bA, 0, none⟩) m m) := cA
              have e6 : (wr.drewN nq).cell? ⟨bA, y, none⟩ = some (.int .i32 (a : Int)) := hgy
              have e7 : (wr.drewN nq).cell? ⟨bA, x1, none⟩ = some (.int .i32 (y : Int)) := hgx
              have e8 : (wr.drewN nq).frozen? ⟨bA, x1, none⟩ = false := hgxf
              clear cA cS cL cC hgx hgxf hgy hglx hglxf hgly hgsx hgsy hch1 hxm1
              generalize wr.drewN nq = wr at B1 e5 e6 e7 e8 ⊢
              go_wp2
              go_region
              all_goals go_wp2
              go_roundg k
              case rel =>
                go_light
                have hSq := B.out.2.2.1
                rw [if_neg hlt, B.out.2.2.2] at hSq
                have hlab : updN lab' x1 (lab' x1) = lab' := by
                  funext j
                  by_cases e : j = x1
                  · subst e; rw [updN_same]
                  · rw [updN_ne _ _ e]
                rw [hlab] at hSq
                refine ⟨k, updN anc' x1 (a : Int), lab', rfl, by first | rfl | (congr 1; omega), hSq, (B1.out.setA HM.out.2.1 x1 (a : Int)).drew, fun j hj => ?_⟩
                have h := B.out.2.1 j hj
                refine ⟨?_, ?_, h.2.2⟩
                · by_cases e : j = x1
                  · subst e; rw [updN_same]; omega
                  · rw [updN_ne _ _ e]; exact h.1
                · by_cases e : j = x1
                  · subst e; rw [updN_same]; omega
                  · rw [updN_ne _ _ e]; exact h.2.1
              case measure => go_light; omega
      · have haL : L ≤ a := by
          rcases Nat.lt_or_ge a L with c | c
          · have := (F.low a c ham).1; omega
          · exact c
        obtain ⟨hW2, hcs2, hlt2⟩ := hW.step F ha haL
        have hil : i < m := by
          have hdec : ∀ t, t ≤ i → cs anc v t + t ≤ v := by
            intro t
            induction t with
            | zero => intro _; show v + 0 ≤ v; omega
            | succ t ih => intro ht; have := ih (by omega); have := hW.dec t (by omega); omega
          have := hdec i (Nat.le_refl _)
          omega
        have A : Aside (Wy m L anc v (i + 1) ∧ EQ w wr base vA vC vS vL bA bS bL m anc sm lab (.slice ac i cc) i (chV anc v i) ∧ cs anc v (i + 1) = a ∧ Ed base vA vC vS vL bA bS bL ∧ x = cs anc v i ∧ a < x) := ⟨hW2, hQ, hcs2, D, hx, by rw [hx]; exact hlt2⟩
        clear T D F M hb hsm hW hQ hx ha hb0 haL hW2 hcs2 hlt2
        obtain ⟨i0, hi, hz0, hz1, hz2⟩ := info_parts Try.info21
        go_wp2
        go_quiet (fail)
        have A1 : Aside (EQ w (wr.drewN nq) base vA vC vS vL bA bS bL m anc sm lab (.slice ac i cc) i (chV anc v i)) := A.out.2.1.drewN _
        clear cA gx ga gC gCf
        generalize wr.drewN nq = wr at A1 ⊢
        have gC := cell_of_one A1.out.cC
        have HC : Aside (∀ w1, (wr.alloc (.cells #[.int .i32 (x : Int)] 21)).grownBy w1 (Value.slice ac i cc).ownBlock → (∀ j, j < base → w1.heap[j]? = wr.heap[j]?) ∧ w1.heap[vC]? = some (.cells #[.slice ac i cc] 22 (0, 0))) := fun w1 hg => by
          have hbl : ∀ j, j < base → w1.heap[j]? = wr.heap[j]? := fun j hj => by
            have hjs : j < wr.heap.size := by have := A1.out.sz; omega
            have h1 : (wr.alloc (.cells #[.int .i32 (x : Int)] 21)).heap[j]? = wr.heap[j]? := heap_alloc_old _ _ hjs
            refine (hg.block j (by simp; omega) fun e => ?_).trans h1
            have := (A1.out.own.lt j e.symm).1
            omega
          exact ⟨hbl, (hbl vC A.out.2.2.2.1.lt.2.1).trans A1.out.cC⟩
        go_upto_region 6 with (at_builtin; refine wpList_append_own _ rfl (.tmp 32) (.tmp 34) 22 rfl base 21 i0 (.int .i32 0) 1 4 Try.underlying22 hi hz0 hz1 hz2 rfl (by decide) (.slice ac i cc) i (chV anc v i) rfl (A1.out.own.alloc _) ⟨wr.heap.size, 0, none⟩ 1 1 [.int .i32 (x : Int)] rfl rfl (cell_one_new _ _ _) (by simp [Value.oneCell']) (by simp only [maxLen]; omega) (by omega) (by have := A1.out.sz; simp; omega) ?_; intro v' w1 hown1 hgr1 _; obtain ⟨a', c', hform⟩ := owns_form hown1; subst hform; have gC1 := cell_of_one (HC.out w1 hgr1).2; have gC1f := frozen_of_one (HC.out w1 hgr1).2)
        have Q1 : Aside (EQ w (w1.setCell ⟨vC, 0, none⟩ (.slice a' (i + 1) c')) base vA vC vS vL bA bS bL m anc sm lab (.slice a' (i + 1) c') (i + 1) (chV anc v (i + 1))) := by
          have hbk : ∀ j, j ≠ vC → (w1.setCell ⟨vC, 0, none⟩ (.slice a' (i + 1) c')).heap[j]? = w1.heap[j]? := fun j hj => Below.heap_setCell _ _ _ _ hj
          have hxs : chV anc v (i + 1) = chV anc v i ++ [.int .i32 (x : Int)] := by
            unfold chV
            rw [List.range_succ, List.map_append, A.out.2.2.2.2.1]
            rfl
          refine A1.out.turn A.out.2.2.2.1 (by rw [show (w1.setCell ⟨vC, 0, none⟩ (.slice a' (i + 1) c')).os = w1.os from rfl, hgr1.os]; rfl) (by rw [show (w1.setCell ⟨vC, 0, none⟩ (.slice a' (i + 1) c')).tape = w1.tape from rfl, hgr1.tape]; rfl) (by rw [show (w1.setCell ⟨vC, 0, none⟩ (.slice a' (i + 1) c')).output = w1.output from rfl, hgr1.output]; rfl) (by have := hgr1.size; simp at this ⊢; omega)
            (fun j hj hne => (hbk j hne).trans ((HC.out w1 hgr1).1 j hj)) ((Go.heap_setCell_same _ _ _ _ _ _ (HC.out w1 hgr1).2).trans rfl) ?_
          rw [hxs]
          refine hown1.kept (row := some vC) ⟨rfl, rfl, rfl, by simp, fun j hj hne => hbk j (fun e => hne (congrArg some e))⟩ ?_
          rcases hv : (Value.slice a' (i + 1) c').ownBlock with _ | g
          · exact .inl rfl
          · refine .inr fun e => ?_
            have h1 := (hown1.lt g hv).1
            have h2 := A.out.2.2.2.1.lt.2.1
            cases e; omega
        clear gC1 gC1f hown1 hgr1 gC HC A1
        generalize w1.setCell ⟨vC, 0, none⟩ (.slice a' (i + 1) c') = wr at Q1 ⊢
        have cA := cell_of_one Q1.out.cA
        have gx : wr.cell? ⟨bA, x, none⟩ = some (.int .i32 (a : Int)) := by
          have h := A.out.1.lnk i (by omega)
          rw [A.out.2.2.1, ← A.out.2.2.2.2.1] at h
          rw [← h]
          exact Q1.out.aA.cell hxm
        go_wp2
        go_roundg a
        case rel =>
          go_light
          exact ⟨i + 1, _, by rw [A.out.2.2.1]; rfl, by rw [A.out.2.2.1], A.out.1, Q1.out⟩
        case measure =>
          have h1 := A.out.2.2.2.2.2
          have h2 := A.out.2.2.2.2.1
          go_light; omega
end Go.Proofs.Qxb6602963a
