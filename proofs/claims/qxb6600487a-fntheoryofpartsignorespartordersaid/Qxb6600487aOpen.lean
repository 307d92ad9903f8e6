import Derived.Test.Qxb6600487aRows
import Derived.Test.Qxb6600487aMem
import Derived.ProofKit
import Derived.Deep.Grids
import Derived.ChangeOld
namespace Go.Proofs.Qxb6600487a
open Go.ChangeShapes Go.WideShapes Go.ChangeAt Go.RowKit
set_option linter.unusedVariables false

theorem reads_of_cells {w : World} {a : Addr} {n : Nat} {f : Nat → Value} (h : ∀ i, i < n → w.cell? (a.add i) = some (f i)) : Reads w (some a) n f := by
  intro hn
  obtain ⟨b, o, s⟩ := a
  have h0 : s = none := by simpa [Addr.add] using World.cell?_spot (h 0 hn)
  subst h0
  exact ⟨b, o, rfl, fun i hi => by rw [← add_plain]; exact h i hi⟩

theorem open_int_row {H : Type} {enc : TypeId × Value → H} {P : Program} {W : World} {t e : TypeId} {k : IntKind} {a : Option Addr} {len cap : Nat} {d : DataW H} {p : List MemPlace}
    (ht : P.underlying t = some (.slice e)) (he : P.underlying e = some (.int k)) (hc : P.cellsOf e = 1) (h : DataW.Trod enc P W 0 (fun _ => true) true t (.slice a len cap) d p) :
    ∃ f : Nat → Int, Reads W a len (fun i => .int k (f i)) ∧ (a = none → len = 0) ∧ len ≤ maxLen ∧ (∀ i, i < len → (Lit.int k (f i)).wf = true) := by
  obtain ⟨fuel, hf⟩ := h
  rcases open_ints ht he hc hf with ⟨hcs, _⟩ | ⟨x, l, c, zs, hcs, _, hl, hm, hz, _, hcell, hwz⟩
  · simp [Value.cells] at hcs
    obtain ⟨rfl, rfl, rfl⟩ := hcs
    exact ⟨fun _ => 0, fun h => absurd h (by omega), fun _ => rfl, by simp [maxLen], fun i hi => absurd hi (by omega)⟩
  · simp [Value.cells] at hcs
    obtain ⟨rfl, rfl, rfl⟩ := hcs
    simp only [if_true] at hz
    refine ⟨fun i => zs.getD i 0, reads_of_cells fun i hi => hcell i (by omega), fun h => (by cases h), by omega, fun i hi => hwz _ ?_⟩
    show zs.getD i 0 ∈ zs
    rw [List.getD_eq_getElem?_getD, List.getElem?_eq_getElem (by omega)]
    exact List.getElem_mem _

theorem open_bool_row {H : Type} {enc : TypeId × Value → H} {P : Program} {W : World} {t e : TypeId} {a : Option Addr} {len cap : Nat} {d : DataW H} {p : List MemPlace}
    (ht : P.underlying t = some (.slice e)) (he : P.underlying e = some .bool) (hc : P.cellsOf e = 1) (h : DataW.Trod enc P W 0 (fun _ => true) true t (.slice a len cap) d p) :
    ∃ f : Nat → Bool, Reads W a len (fun i => .bool (f i)) ∧ (a = none → len = 0) ∧ len ≤ maxLen := by
  obtain ⟨fuel, hf⟩ := h
  rcases Go.Deep.open_bools ht he hc hf with ⟨hcs, _⟩ | ⟨x, l, c, B, hcs, _, hl, hm, _, hcell⟩
  · simp [Value.cells] at hcs
    obtain ⟨rfl, rfl, rfl⟩ := hcs
    exact ⟨fun _ => false, fun h => absurd h (by omega), fun _ => rfl, by simp [maxLen]⟩
  · simp [Value.cells] at hcs
    obtain ⟨rfl, rfl, rfl⟩ := hcs
    exact ⟨B, reads_of_cells fun i hi => hcell i (by omega), fun h => (by cases h), by omega⟩
end Go.Proofs.Qxb6600487a
