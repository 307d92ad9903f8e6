import Derived.Test.Qxb6603969aS0
import Derived.CellFam
namespace Go.Proofs.Qxb6603969a
open Go.RowKit Go.Sort
set_option linter.unusedVariables false

/-- block b holds the numbers d from place o on, none frozen -/
def SRow (w : World) (b o : Nat) (d : Array Int) : Prop :=
  ∃ C t, w.heap[b]? = some (.cells C t (0, 0)) ∧ o + d.size ≤ C.size ∧ ∀ i, i < d.size → C[o + i]? = some (.int .u16 d[i]!)

theorem SRow.lt {w : World} {b o : Nat} {d : Array Int} (h : SRow w b o d) : b < w.heap.size := by
  obtain ⟨C, t, hC, _⟩ := h
  exact (Array.getElem?_eq_some_iff.1 hC).1

theorem SRow.cell {w : World} {b o : Nat} {d : Array Int} (h : SRow w b o d) {i : Nat} (hi : i < d.size) : w.cell? ⟨b, o + i, none⟩ = some (.int .u16 d[i]!) := by
  obtain ⟨C, t, hC, hs, hc⟩ := h
  rw [← hc i hi]
  simp [World.cell?, hC]

theorem SRow.frozen {w : World} {b o : Nat} {d : Array Int} (h : SRow w b o d) (i : Nat) : w.frozen? ⟨b, i, none⟩ = false := by
  obtain ⟨C, t, hC, hs, hc⟩ := h
  simp [World.frozen?, hC]

theorem SRow.of_block {w w' : World} {b o : Nat} {d : Array Int} (h : SRow w b o d) (hb : w'.heap[b]? = w.heap[b]?) : SRow w' b o d := by
  obtain ⟨C, t, hC, r⟩ := h
  exact ⟨C, t, hb.trans hC, r⟩

theorem SRow.drew {w : World} {b o : Nat} {d : Array Int} (h : SRow w b o d) : SRow w.drew b o d := h
theorem SRow.drewN {w : World} {b o : Nat} {d : Array Int} (h : SRow w b o d) (n : Nat) : SRow (w.drewN n) b o d := h

theorem SRow.swap {w : World} {b o : Nat} {d : Array Int} (h : SRow w b o d) {i j : Nat} (hi : i < d.size) (hj : j < d.size) :
    SRow ((w.setCell ⟨b, o + i, none⟩ (.int .u16 d[j]!)).setCell ⟨b, o + j, none⟩ (.int .u16 d[i]!)) b o (swp d i j) := by
  obtain ⟨C, t, hC, hs, hc⟩ := h
  have h1 := Go.heap_setCell_same w b (o + i) C t (.int .u16 d[j]!) hC
  have h2 := Go.heap_setCell_same _ b (o + j) _ t (.int .u16 d[i]!) h1
  refine ⟨_, t, h2, by simp [swp]; omega, fun k hk => ?_⟩
  have hk' : k < d.size := by simpa [swp] using hk
  have hk2 : o + k < C.size := by omega
  have hck := hc k hk'
  by_cases e1 : k = j
  · subst e1
    have : (swp d i k)[k]! = d[i]! := by unfold swp; rw [getElem!_set_same _ _ _ (by simpa using hj)]
    rw [this]
    simp [hk2]
  · have : (swp d i j)[k]! = if k = i then d[j]! else d[k]! := by
      unfold swp
      rw [getElem!_set_other _ _ _ _ e1]
      by_cases e2 : k = i
      · subst e2; rw [getElem!_set_same _ _ _ hi, if_pos rfl]
      · rw [getElem!_set_other _ _ _ _ e2, if_neg e2]
    rw [this]
    by_cases e2 : k = i
    · subst e2
      simp [Ne.symm e1, hk2]
    · simp [Ne.symm e1, Ne.symm e2]
      rw [hck]
      simp [e2]
theorem Only.swap {b : Nat} {w wr : World} (h : Only b w wr) (i j : Nat) (u v : Value) : Only b w ((wr.setCell ⟨b, i, none⟩ u).setCell ⟨b, j, none⟩ v) :=
  (h.setCell (.inl rfl) _).setCell (.inl rfl) _
theorem Only.drew {b : Nat} {w wr : World} (h : Only b w wr) : Only b w wr.drew := ⟨h.os, h.tape, h.output, h.size, h.block⟩
theorem Only.drewN {b : Nat} {w wr : World} (h : Only b w wr) (n : Nat) : Only b w (wr.drewN n) := ⟨h.os, h.tape, h.output, h.size, h.block⟩

/-- what a function of the sort's family leaves: the row turned to d', all else as it was -/
def SPost (b o : Nat) (d' : Array Int) (w : World) (e : Ending) (w' : World) : Prop := e = .returned (.tuple #[]) ∧ SRow w' b o d' ∧ Only b w w'

/-- the row's cells under a name of their own -/
theorem SRow.fam {w : World} {b o : Nat} {d : Array Int} (h : SRow w b o d) : ∃ G : Nat → Int, (∀ t, t < d.size → w.cell? ⟨b, o + t, none⟩ = some (.int .u16 (G t))) ∧ (∀ t, t < d.size → w.frozen? ⟨b, o + t, none⟩ = false) ∧ Aside (∀ t, G t = d[t]!) :=
  ⟨fun t => d[t]!, fun t ht => h.cell ht, fun t _ => h.frozen _, fun _ => rfl⟩
end Go.Proofs.Qxb6603969a
