import Derived.Test.Qxb6602963aG8
namespace Go.Proofs.Qxb6602963a
open Go.RowKit
set_option linter.unusedVariables false

/-- the blocks of the second half are apart -/
structure DM (H b5 b6 bV vS vL vA bI bS bL bA bF bN vC : Nat) : Prop where
  r1 : H + 2 ≤ b5 ∧ H + 2 ≤ b6 ∧ b5 < bV ∧ b6 < bV
  r2 : bV < vS ∧ bV < vL ∧ bV < vA ∧ bV < bI ∧ bV < bS ∧ bV < bL ∧ bV < bA
  r3 : vS < bF ∧ vL < bF ∧ vA < bF ∧ bI < bF ∧ bS < bF ∧ bL < bF ∧ bA < bF
  r4 : vS < bN ∧ vL < bN ∧ vA < bN ∧ bI < bN ∧ bS < bN ∧ bL < bN ∧ bA < bN
  r5 : bF ≠ bN
  r6 : bF < vC ∧ bN < vC
  IS : bI ≠ bS
  IL : bI ≠ bL
  IA : bI ≠ bA
  SL : bS ≠ bL
  SA : bS ≠ bA
  LA : bL ≠ bA
  vSI : vS ≠ bI
  vSS : vS ≠ bS
  vSL : vS ≠ bL
  vSA : vS ≠ bA
  vLI : vL ≠ bI
  vLS : vL ≠ bS
  vLL : vL ≠ bL
  vLA : vL ≠ bA
  vAI : vA ≠ bI
  vAS : vA ≠ bS
  vAL : vA ≠ bL
  vAA : vA ≠ bA

theorem DM.ed {H b5 b6 bV vS vL vA bI bS bL bA bF bN vC : Nat} (D : DM H b5 b6 bV vS vL vA bI bS bL bA bF bN vC) : Ed (vC + 1) vA vC vS vL bA bS bL := by
  have r3 := D.r3; have r6 := D.r6
  exact ⟨by omega, by omega, by omega, by omega, by omega, by omega, D.vAA, D.vSA, D.vLA, D.SA, D.LA, D.vAL, D.vSL, D.vLL, D.SL, by omega⟩

/-- the memory ahead of the main loop -/
structure PM (w wr : World) (src n L b1 o1 c1 : Nat) (a2 : Option Addr) (c2 b5 b6 bV vS vL vA bI bS bL bA bF bN vC m : Nat) (num span : Nat → Int) (V : Nat → Nat) (anc : Nat → Int) (sm lab d0 : Nat → Nat) (bf bn : Nat → Int) : Prop where
  pb : PB w wr src n L b1 o1 c1 a2 c2
  a5 : Arr wr b5 n num
  a6 : Arr wr b6 n span
  aV : Arr wr bV m (fun i => (V i : Int))
  cS : wr.heap[vS]? = some (.cells #[.slice (some ⟨bS, 0, none⟩) m m] 22 (0, 0))
  cL : wr.heap[vL]? = some (.cells #[.slice (some ⟨bL, 0, none⟩) m m] 22 (0, 0))
  cA : wr.heap[vA]? = some (.cells #[.slice (some ⟨bA, 0, none⟩) m m] 22 (0, 0))
  aI : Arr wr bI m (fun i => (d0 i : Int))
  aS : Arr wr bS m (fun i => (sm i : Int))
  aL : Arr wr bL m (fun i => (lab i : Int))
  aA : Arr wr bA m anc
  aF : Arr wr bF m bf
  aN : Arr wr bN m bn
  sz : vC ≤ wr.heap.size

/-- the memory in the main loop -/
structure PN (w wr : World) (src n L b1 o1 c1 : Nat) (a2 : Option Addr) (c2 b5 b6 bV vS vL vA bI bS bL bA bF bN vC m : Nat) (num span : Nat → Int) (V : Nat → Nat) (anc : Nat → Int) (sm lab d0 : Nat → Nat) (bf bn : Nat → Int) : Prop where
  pm : PM w wr src n L b1 o1 c1 a2 c2 b5 b6 bV vS vL vA bI bS bL bA bF bN vC m num span V anc sm lab d0 bf bn
  cC : ∃ vch k xs, wr.heap[vC]? = some (.cells #[vch] 22 (0, 0)) ∧ wr.ownsRow (vC + 1) 21 1 vch k xs
  sz : vC + 1 ≤ wr.heap.size

theorem arrN {w : World} {b m i v : Nat} {f : Nat → Nat} (h : Arr w b m (updN (fun j => (f j : Int)) i (v : Int))) : Arr w b m (fun j => ((updN f i v j : Nat) : Int)) := h.congr fun j _ => by
  by_cases e : j = i
  · subst e; rw [updN_same, updN_same]
  · rw [updN_ne _ _ e, updN_ne _ _ e]

section
variable {w wr : World} {src n L b1 o1 c1 : Nat} {a2 : Option Addr} {c2 b5 b6 bV vS vL vA bI bS bL bA bF bN vC m : Nat} {num span : Nat → Int} {V : Nat → Nat} {anc : Nat → Int} {sm lab d0 : Nat → Nat} {bf bn : Nat → Int}
theorem PM.setS (h : PM w wr src n L b1 o1 c1 a2 c2 b5 b6 bV vS vL vA bI bS bL bA bF bN vC m num span V anc sm lab d0 bf bn) (D : DM w.heap.size b5 b6 bV vS vL vA bI bS bL bA bF bN vC) (i : Nat) (v : Nat) : PM w (wr.setCell ⟨bS, i, none⟩ (.int .i32 (v : Int))) src n L b1 o1 c1 a2 c2 b5 b6 bV vS vL vA bI bS bL bA bF bN vC m num span V anc (updN sm i v) lab d0 bf bn := by
  have hb : ∀ j, j ≠ bS → (wr.setCell ⟨bS, i, none⟩ (.int .i32 (v : Int))).heap[j]? = wr.heap[j]? := fun j hj => Below.heap_setCell _ _ _ _ hj
  obtain ⟨r1, r1', r1'', r1'''⟩ := D.r1
  have r2 := D.r2; have r3 := D.r3; have r4 := D.r4
  exact ⟨h.pb.move (h.pb.bel.setCell (by show _ ≤ bS; omega) _) (hb _ (by omega)) (hb _ (by omega)) (by simp), h.a5.of_block (hb _ (by omega)), h.a6.of_block (hb _ (by omega)), h.aV.of_block (hb _ (by omega)), (hb _ D.vSS).trans h.cS, (hb _ D.vLS).trans h.cL, (hb _ D.vAS).trans h.cA, h.aI.of_block (hb _ D.IS), arrN (h.aS.upd i _), h.aL.of_block (hb _ (Ne.symm D.SL)), h.aA.of_block (hb _ (Ne.symm D.SA)), h.aF.of_block (hb _ (by omega)), h.aN.of_block (hb _ (by omega)), by simpa using h.sz⟩
theorem PM.setL (h : PM w wr src n L b1 o1 c1 a2 c2 b5 b6 bV vS vL vA bI bS bL bA bF bN vC m num span V anc sm lab d0 bf bn) (D : DM w.heap.size b5 b6 bV vS vL vA bI bS bL bA bF bN vC) (i : Nat) (v : Nat) : PM w (wr.setCell ⟨bL, i, none⟩ (.int .i32 (v : Int))) src n L b1 o1 c1 a2 c2 b5 b6 bV vS vL vA bI bS bL bA bF bN vC m num span V anc sm (updN lab i v) d0 bf bn := by
  have hb : ∀ j, j ≠ bL → (wr.setCell ⟨bL, i, none⟩ (.int .i32 (v : Int))).heap[j]? = wr.heap[j]? := fun j hj => Below.heap_setCell _ _ _ _ hj
  obtain ⟨r1, r1', r1'', r1'''⟩ := D.r1
  have r2 := D.r2; have r3 := D.r3; have r4 := D.r4
  exact ⟨h.pb.move (h.pb.bel.setCell (by show _ ≤ bL; omega) _) (hb _ (by omega)) (hb _ (by omega)) (by simp), h.a5.of_block (hb _ (by omega)), h.a6.of_block (hb _ (by omega)), h.aV.of_block (hb _ (by omega)), (hb _ D.vSL).trans h.cS, (hb _ D.vLL).trans h.cL, (hb _ D.vAL).trans h.cA, h.aI.of_block (hb _ D.IL), h.aS.of_block (hb _ D.SL), arrN (h.aL.upd i _), h.aA.of_block (hb _ (Ne.symm D.LA)), h.aF.of_block (hb _ (by omega)), h.aN.of_block (hb _ (by omega)), by simpa using h.sz⟩
theorem PM.setI (h : PM w wr src n L b1 o1 c1 a2 c2 b5 b6 bV vS vL vA bI bS bL bA bF bN vC m num span V anc sm lab d0 bf bn) (D : DM w.heap.size b5 b6 bV vS vL vA bI bS bL bA bF bN vC) (i : Nat) (v : Nat) : PM w (wr.setCell ⟨bI, i, none⟩ (.int .i32 (v : Int))) src n L b1 o1 c1 a2 c2 b5 b6 bV vS vL vA bI bS bL bA bF bN vC m num span V anc sm lab (updN d0 i v) bf bn := by
  have hb : ∀ j, j ≠ bI → (wr.setCell ⟨bI, i, none⟩ (.int .i32 (v : Int))).heap[j]? = wr.heap[j]? := fun j hj => Below.heap_setCell _ _ _ _ hj
  obtain ⟨r1, r1', r1'', r1'''⟩ := D.r1
  have r2 := D.r2; have r3 := D.r3; have r4 := D.r4
  exact ⟨h.pb.move (h.pb.bel.setCell (by show _ ≤ bI; omega) _) (hb _ (by omega)) (hb _ (by omega)) (by simp), h.a5.of_block (hb _ (by omega)), h.a6.of_block (hb _ (by omega)), h.aV.of_block (hb _ (by omega)), (hb _ D.vSI).trans h.cS, (hb _ D.vLI).trans h.cL, (hb _ D.vAI).trans h.cA, arrN (h.aI.upd i _), h.aS.of_block (hb _ (Ne.symm D.IS)), h.aL.of_block (hb _ (Ne.symm D.IL)), h.aA.of_block (hb _ (Ne.symm D.IA)), h.aF.of_block (hb _ (by omega)), h.aN.of_block (hb _ (by omega)), by simpa using h.sz⟩
theorem PM.setA (h : PM w wr src n L b1 o1 c1 a2 c2 b5 b6 bV vS vL vA bI bS bL bA bF bN vC m num span V anc sm lab d0 bf bn) (D : DM w.heap.size b5 b6 bV vS vL vA bI bS bL bA bF bN vC) (i : Nat) (v : Int) : PM w (wr.setCell ⟨bA, i, none⟩ (.int .i32 v)) src n L b1 o1 c1 a2 c2 b5 b6 bV vS vL vA bI bS bL bA bF bN vC m num span V (updN anc i v) sm lab d0 bf bn := by
  have hb : ∀ j, j ≠ bA → (wr.setCell ⟨bA, i, none⟩ (.int .i32 v)).heap[j]? = wr.heap[j]? := fun j hj => Below.heap_setCell _ _ _ _ hj
  obtain ⟨r1, r1', r1'', r1'''⟩ := D.r1
  have r2 := D.r2; have r3 := D.r3; have r4 := D.r4
  exact ⟨h.pb.move (h.pb.bel.setCell (by show _ ≤ bA; omega) _) (hb _ (by omega)) (hb _ (by omega)) (by simp), h.a5.of_block (hb _ (by omega)), h.a6.of_block (hb _ (by omega)), h.aV.of_block (hb _ (by omega)), (hb _ D.vSA).trans h.cS, (hb _ D.vLA).trans h.cL, (hb _ D.vAA).trans h.cA, h.aI.of_block (hb _ D.IA), h.aS.of_block (hb _ D.SA), h.aL.of_block (hb _ D.LA), h.aA.upd i v, h.aF.of_block (hb _ (by omega)), h.aN.of_block (hb _ (by omega)), by simpa using h.sz⟩
theorem PM.setF (h : PM w wr src n L b1 o1 c1 a2 c2 b5 b6 bV vS vL vA bI bS bL bA bF bN vC m num span V anc sm lab d0 bf bn) (D : DM w.heap.size b5 b6 bV vS vL vA bI bS bL bA bF bN vC) (i : Nat) (v : Int) : PM w (wr.setCell ⟨bF, i, none⟩ (.int .i32 v)) src n L b1 o1 c1 a2 c2 b5 b6 bV vS vL vA bI bS bL bA bF bN vC m num span V anc sm lab d0 (updN bf i v) bn := by
  have hb : ∀ j, j ≠ bF → (wr.setCell ⟨bF, i, none⟩ (.int .i32 v)).heap[j]? = wr.heap[j]? := fun j hj => Below.heap_setCell _ _ _ _ hj
  obtain ⟨r1, r1', r1'', r1'''⟩ := D.r1
  have r2 := D.r2; have r3 := D.r3; have r4 := D.r4
  exact ⟨h.pb.move (h.pb.bel.setCell (by show _ ≤ bF; omega) _) (hb _ (by omega)) (hb _ (by omega)) (by simp), h.a5.of_block (hb _ (by omega)), h.a6.of_block (hb _ (by omega)), h.aV.of_block (hb _ (by omega)), (hb _ (by omega)).trans h.cS, (hb _ (by omega)).trans h.cL, (hb _ (by omega)).trans h.cA, h.aI.of_block (hb _ (by omega)), h.aS.of_block (hb _ (by omega)), h.aL.of_block (hb _ (by omega)), h.aA.of_block (hb _ (by omega)), h.aF.upd i v, h.aN.of_block (hb _ (Ne.symm D.r5)), by simpa using h.sz⟩
theorem PM.setN (h : PM w wr src n L b1 o1 c1 a2 c2 b5 b6 bV vS vL vA bI bS bL bA bF bN vC m num span V anc sm lab d0 bf bn) (D : DM w.heap.size b5 b6 bV vS vL vA bI bS bL bA bF bN vC) (i : Nat) (v : Int) : PM w (wr.setCell ⟨bN, i, none⟩ (.int .i32 v)) src n L b1 o1 c1 a2 c2 b5 b6 bV vS vL vA bI bS bL bA bF bN vC m num span V anc sm lab d0 bf (updN bn i v) := by
  have hb : ∀ j, j ≠ bN → (wr.setCell ⟨bN, i, none⟩ (.int .i32 v)).heap[j]? = wr.heap[j]? := fun j hj => Below.heap_setCell _ _ _ _ hj
  obtain ⟨r1, r1', r1'', r1'''⟩ := D.r1
  have r2 := D.r2; have r3 := D.r3; have r4 := D.r4
  exact ⟨h.pb.move (h.pb.bel.setCell (by show _ ≤ bN; omega) _) (hb _ (by omega)) (hb _ (by omega)) (by simp), h.a5.of_block (hb _ (by omega)), h.a6.of_block (hb _ (by omega)), h.aV.of_block (hb _ (by omega)), (hb _ (by omega)).trans h.cS, (hb _ (by omega)).trans h.cL, (hb _ (by omega)).trans h.cA, h.aI.of_block (hb _ (by omega)), h.aS.of_block (hb _ (by omega)), h.aL.of_block (hb _ (by omega)), h.aA.of_block (hb _ (by omega)), h.aF.of_block (hb _ D.r5), h.aN.upd i v, by simpa using h.sz⟩
theorem PM.later (h : PM w wr src n L b1 o1 c1 a2 c2 b5 b6 bV vS vL vA bI bS bL bA bF bN vC m num span V anc sm lab d0 bf bn) (D : DM w.heap.size b5 b6 bV vS vL vA bI bS bL bA bF bN vC) {w1 : World} (k : Below vC wr w1) : PM w w1 src n L b1 o1 c1 a2 c2 b5 b6 bV vS vL vA bI bS bL bA bF bN vC m num span V anc sm lab d0 bf bn := by
  have r1 := D.r1; have r2 := D.r2; have r3 := D.r3; have r4 := D.r4; have r6 := D.r6
  exact ⟨h.pb.move (h.pb.bel.trans (k.mono (by omega))) (k.block _ (by omega)) (k.block _ (by omega)) k.size, h.a5.of_block (k.block _ (by omega)), h.a6.of_block (k.block _ (by omega)), h.aV.of_block (k.block _ (by omega)), (k.block _ (by omega)).trans h.cS, (k.block _ (by omega)).trans h.cL, (k.block _ (by omega)).trans h.cA, h.aI.of_block (k.block _ (by omega)), h.aS.of_block (k.block _ (by omega)), h.aL.of_block (k.block _ (by omega)), h.aA.of_block (k.block _ (by omega)), h.aF.of_block (k.block _ (by omega)), h.aN.of_block (k.block _ (by omega)), by have := k.size; have := h.sz; omega⟩
theorem PM.drew (h : PM w wr src n L b1 o1 c1 a2 c2 b5 b6 bV vS vL vA bI bS bL bA bF bN vC m num span V anc sm lab d0 bf bn) : PM w wr.drew src n L b1 o1 c1 a2 c2 b5 b6 bV vS vL vA bI bS bL bA bF bN vC m num span V anc sm lab d0 bf bn := ⟨⟨h.pb.bel.drew, h.pb.box, h.pb.res, h.pb.sz⟩, h.a5, h.a6, h.aV, h.cS, h.cL, h.cA, h.aI, h.aS, h.aL, h.aA, h.aF, h.aN, h.sz⟩
theorem PM.drewN (h : PM w wr src n L b1 o1 c1 a2 c2 b5 b6 bV vS vL vA bI bS bL bA bF bN vC m num span V anc sm lab d0 bf bn) (k : Nat) : PM w (wr.drewN k) src n L b1 o1 c1 a2 c2 b5 b6 bV vS vL vA bI bS bL bA bF bN vC m num span V anc sm lab d0 bf bn := ⟨⟨⟨h.pb.bel.os, h.pb.bel.tape, h.pb.bel.output, h.pb.bel.size, h.pb.bel.block⟩, h.pb.box, h.pb.res, h.pb.sz⟩, h.a5, h.a6, h.aV, h.cS, h.cL, h.cA, h.aI, h.aS, h.aL, h.aA, h.aF, h.aN, h.sz⟩
theorem PM.congr (h : PM w wr src n L b1 o1 c1 a2 c2 b5 b6 bV vS vL vA bI bS bL bA bF bN vC m num span V anc sm lab d0 bf bn) {anc' : Nat → Int} {sm' lab' : Nat → Nat} {bf' : Nat → Int} (e1 : ∀ i, i < m → anc i = anc' i) (e2 : ∀ i, i < m → sm i = sm' i) (e3 : ∀ i, i < m → lab i = lab' i) (e4 : ∀ i, i < m → bf i = bf' i) : PM w wr src n L b1 o1 c1 a2 c2 b5 b6 bV vS vL vA bI bS bL bA bF bN vC m num span V anc' sm' lab' d0 bf' bn :=
  ⟨h.pb, h.a5, h.a6, h.aV, h.cS, h.cL, h.cA, h.aI, h.aS.congr (fun i hi => by rw [e2 i hi]), h.aL.congr (fun i hi => by rw [e3 i hi]), h.aA.congr e1, h.aF.congr e4, h.aN, h.sz⟩
theorem PN.setS (h : PN w wr src n L b1 o1 c1 a2 c2 b5 b6 bV vS vL vA bI bS bL bA bF bN vC m num span V anc sm lab d0 bf bn) (D : DM w.heap.size b5 b6 bV vS vL vA bI bS bL bA bF bN vC) (i : Nat) (v : Nat) : PN w (wr.setCell ⟨bS, i, none⟩ (.int .i32 (v : Int))) src n L b1 o1 c1 a2 c2 b5 b6 bV vS vL vA bI bS bL bA bF bN vC m num span V anc (updN sm i v) lab d0 bf bn := by
  have r3 := D.r3; have r6 := D.r6
  obtain ⟨vch, k, xs, hC, hown⟩ := h.cC
  exact ⟨h.pm.setS D i v, ⟨vch, k, xs, (Below.heap_setCell _ _ _ _ (show vC ≠ bS by omega)).trans hC, own_low hown (by omega) _ _⟩, by simpa using h.sz⟩
theorem PN.setI (h : PN w wr src n L b1 o1 c1 a2 c2 b5 b6 bV vS vL vA bI bS bL bA bF bN vC m num span V anc sm lab d0 bf bn) (D : DM w.heap.size b5 b6 bV vS vL vA bI bS bL bA bF bN vC) (i : Nat) (v : Nat) : PN w (wr.setCell ⟨bI, i, none⟩ (.int .i32 (v : Int))) src n L b1 o1 c1 a2 c2 b5 b6 bV vS vL vA bI bS bL bA bF bN vC m num span V anc sm lab (updN d0 i v) bf bn := by
  have r3 := D.r3; have r6 := D.r6
  obtain ⟨vch, k, xs, hC, hown⟩ := h.cC
  exact ⟨h.pm.setI D i v, ⟨vch, k, xs, (Below.heap_setCell _ _ _ _ (show vC ≠ bI by omega)).trans hC, own_low hown (by omega) _ _⟩, by simpa using h.sz⟩
theorem PN.setA (h : PN w wr src n L b1 o1 c1 a2 c2 b5 b6 bV vS vL vA bI bS bL bA bF bN vC m num span V anc sm lab d0 bf bn) (D : DM w.heap.size b5 b6 bV vS vL vA bI bS bL bA bF bN vC) (i : Nat) (v : Int) : PN w (wr.setCell ⟨bA, i, none⟩ (.int .i32 v)) src n L b1 o1 c1 a2 c2 b5 b6 bV vS vL vA bI bS bL bA bF bN vC m num span V (updN anc i v) sm lab d0 bf bn := by
  have r3 := D.r3; have r6 := D.r6
  obtain ⟨vch, k, xs, hC, hown⟩ := h.cC
  exact ⟨h.pm.setA D i v, ⟨vch, k, xs, (Below.heap_setCell _ _ _ _ (show vC ≠ bA by omega)).trans hC, own_low hown (by omega) _ _⟩, by simpa using h.sz⟩
theorem PN.setF (h : PN w wr src n L b1 o1 c1 a2 c2 b5 b6 bV vS vL vA bI bS bL bA bF bN vC m num span V anc sm lab d0 bf bn) (D : DM w.heap.size b5 b6 bV vS vL vA bI bS bL bA bF bN vC) (i : Nat) (v : Int) : PN w (wr.setCell ⟨bF, i, none⟩ (.int .i32 v)) src n L b1 o1 c1 a2 c2 b5 b6 bV vS vL vA bI bS bL bA bF bN vC m num span V anc sm lab d0 (updN bf i v) bn := by
  have r3 := D.r3; have r6 := D.r6
  obtain ⟨vch, k, xs, hC, hown⟩ := h.cC
  exact ⟨h.pm.setF D i v, ⟨vch, k, xs, (Below.heap_setCell _ _ _ _ (show vC ≠ bF by omega)).trans hC, own_low hown (by omega) _ _⟩, by simpa using h.sz⟩
theorem PN.setN (h : PN w wr src n L b1 o1 c1 a2 c2 b5 b6 bV vS vL vA bI bS bL bA bF bN vC m num span V anc sm lab d0 bf bn) (D : DM w.heap.size b5 b6 bV vS vL vA bI bS bL bA bF bN vC) (i : Nat) (v : Int) : PN w (wr.setCell ⟨bN, i, none⟩ (.int .i32 v)) src n L b1 o1 c1 a2 c2 b5 b6 bV vS vL vA bI bS bL bA bF bN vC m num span V anc sm lab d0 bf (updN bn i v) := by
  have r3 := D.r3; have r6 := D.r6
  obtain ⟨vch, k, xs, hC, hown⟩ := h.cC
  exact ⟨h.pm.setN D i v, ⟨vch, k, xs, (Below.heap_setCell _ _ _ _ (show vC ≠ bN by omega)).trans hC, own_low hown (by omega) _ _⟩, by simpa using h.sz⟩
theorem PN.drew (h : PN w wr src n L b1 o1 c1 a2 c2 b5 b6 bV vS vL vA bI bS bL bA bF bN vC m num span V anc sm lab d0 bf bn) : PN w wr.drew src n L b1 o1 c1 a2 c2 b5 b6 bV vS vL vA bI bS bL bA bF bN vC m num span V anc sm lab d0 bf bn := by
  obtain ⟨vch, k, xs, hC, hown⟩ := h.cC
  exact ⟨h.pm.drew, ⟨vch, k, xs, hC, hown.drew⟩, h.sz⟩
theorem PN.drewN (h : PN w wr src n L b1 o1 c1 a2 c2 b5 b6 bV vS vL vA bI bS bL bA bF bN vC m num span V anc sm lab d0 bf bn) (q : Nat) : PN w (wr.drewN q) src n L b1 o1 c1 a2 c2 b5 b6 bV vS vL vA bI bS bL bA bF bN vC m num span V anc sm lab d0 bf bn := by
  obtain ⟨vch, k, xs, hC, hown⟩ := h.cC
  exact ⟨h.pm.drewN q, ⟨vch, k, xs, hC, hown.kept (row := none) ⟨rfl, rfl, rfl, Nat.le_refl _, fun _ _ _ => rfl⟩ (by cases hv : vch.ownBlock <;> simp)⟩, h.sz⟩
theorem PN.em (h : PN w wr src n L b1 o1 c1 a2 c2 b5 b6 bV vS vL vA bI bS bL bA bF bN vC m num span V anc sm lab d0 bf bn) : EM wr (vC + 1) vA vC vS vL bA bS bL m anc sm lab := ⟨h.pm.cA, h.pm.cS, h.pm.cL, h.cC, h.pm.aA, h.pm.aS, h.pm.aL, h.sz⟩
/-- eval turned three blocks -/
theorem PN.evald (h : PN w wr src n L b1 o1 c1 a2 c2 b5 b6 bV vS vL vA bI bS bL bA bF bN vC m num span V anc sm lab d0 bf bn) (D : DM w.heap.size b5 b6 bV vS vL vA bI bS bL bA bF bN vC) {w1 : World} {anc' : Nat → Int} {lab' : Nat → Nat} (M : EM w1 (vC + 1) vA vC vS vL bA bS bL m anc' sm lab') (T : Tn (vC + 1) vC bA bL wr w1) : PN w w1 src n L b1 o1 c1 a2 c2 b5 b6 bV vS vL vA bI bS bL bA bF bN vC m num span V anc' sm lab' d0 bf bn := by
  obtain ⟨r1, r1', r1'', r1'''⟩ := D.r1
  have r2 := D.r2; have r3 := D.r3; have r4 := D.r4; have r6 := D.r6
  have hb : ∀ j, j < vC → j ≠ bA → j ≠ bL → w1.heap[j]? = wr.heap[j]? := fun j h1 h2 h3 => T.block j (by omega) (by omega) h2 h3
  have hbel : Below w.heap.size w w1 := by
    have hw := h.pm.pb.bel
    exact hw.trans ⟨T.os, T.tape, T.output, T.size, fun k hk => hb k (by omega) (by omega) (by omega)⟩
  exact ⟨⟨h.pm.pb.move hbel (hb _ (by omega) (by omega) (by omega)) (hb _ (by omega) (by omega) (by omega)) T.size, h.pm.a5.of_block (hb _ (by omega) (by omega) (by omega)), h.pm.a6.of_block (hb _ (by omega) (by omega) (by omega)), h.pm.aV.of_block (hb _ (by omega) (by omega) (by omega)), M.cS, M.cL, M.cA, h.pm.aI.of_block (hb _ (by omega) D.IA D.IL), M.aS, M.aL, M.aA, h.pm.aF.of_block (hb _ (by omega) (by omega) (by omega)), h.pm.aN.of_block (hb _ (by omega) (by omega) (by omega)), by have := M.sz; omega⟩, M.cC, M.sz⟩
end
end Go.Proofs.Qxb6602963a
