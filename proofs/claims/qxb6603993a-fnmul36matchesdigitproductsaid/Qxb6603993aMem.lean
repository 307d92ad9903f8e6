import Derived.Test.Qxb6603993aChecked
import Derived.Test.Qxb6603993aNum
import Derived.WalkSpells
import Derived.WalkLawsBesides
import Derived.Deep.OwnRows
import Derived.Deep.LoopGhost
import Derived.Deep.Light
import Derived.Deep.QuietTactic
import Derived.Deep.DeepCutAuto
import Derived.Deep.WholeRow
import Derived.BigQuiet
import Derived.BigRegion
import Derived.Deep.RegionWith
namespace Go.Proofs.Qxb6603993a
open Go.RowKit
set_option linter.unusedVariables false

/-- the array whose cell i is f i -/
def arr (n : Nat) (f : Nat → Value) : Array Value := Array.ofFn (n := n) fun i => f i.1

theorem arr_size (n : Nat) (f : Nat → Value) : (arr n f).size = n := by simp [arr]
theorem arr_at (n : Nat) (f : Nat → Value) (i : Nat) (h : i < n) : (arr n f)[i]? = some (f i) := by simp [arr, h]
theorem arr_eq {C : Array Value} {n : Nat} {f : Nat → Value} (hs : C.size = n) (h : ∀ i, i < n → C[i]? = some (f i)) : C = arr n f := by
  apply Array.ext_getElem?
  intro i
  by_cases hi : i < n
  · rw [h i hi, arr_at n f i hi]
  · simp [Array.getElem?_eq_none (show C.size ≤ i by omega), Array.getElem?_eq_none (show (arr n f).size ≤ i by rw [arr_size]; omega)]
theorem arr_congr {n : Nat} {f g : Nat → Value} (h : ∀ i, i < n → f i = g i) : arr n f = arr n g :=
  arr_eq (arr_size _ _) fun i hi => by rw [arr_at _ _ _ hi, h i hi]

theorem row_block {w : World} {b : Nat} {t : TypeId} {n : Nat} {f : Nat → Value} (h : w.rowIs b t n f) : w.heap[b]? = some (.cells (arr n f) t (0, 0)) := by
  obtain ⟨C, hC, hs, hc⟩ := h
  rw [hC, arr_eq hs hc]

theorem row_of_block {w : World} {b : Nat} {t : TypeId} {n : Nat} {f : Nat → Value} (h : w.heap[b]? = some (.cells (arr n f) t (0, 0))) : w.rowIs b t n f :=
  ⟨_, h, arr_size _ _, fun i hi => arr_at _ _ _ hi⟩

theorem arr_row (w : World) (n : Nat) (f : Nat → Value) (t : TypeId) : (w.alloc (.cells (arr n f) t)).rowIs w.heap.size t n f :=
  row_of_block (heap_alloc_last w _)

theorem load_row {w : World} {b : Nat} {t : TypeId} {n : Nat} {f : Nat → Value} (h : w.rowIs b t n f) :
    (loadCellsFrom ⟨b, 0, none⟩ 0 n #[]).run Try.prog w = .ok (arr n f) w := by
  have hb := row_block h
  have := run_loadCells_list (P := Try.prog) w ⟨b, 0, none⟩ (arr n f).toList (fun j v hv => by
    have hadd : (⟨b, 0, none⟩ : Addr).add j = ⟨b, j, none⟩ := by unfold Addr.add; split <;> simp_all
    rw [hadd, cell_of_row _ _ j _ t (0, 0) hb]
    simpa using hv)
  simpa [loadCells, arr_size] using this

theorem arr_one (n : Nat) (g : Nat → Int) (k : IntKind) : ∀ v ∈ (arr n fun i => .int k (g i)).toList, v.oneCell' = true := by
  intro v hv
  simp [arr] at hv
  obtain ⟨i, rfl⟩ := hv
  rfl

theorem store_row {w : World} {b : Nat} {t : TypeId} {n : Nat} {f : Nat → Value} {g : Nat → Int} {k : IntKind} (h : w.rowIs b t n f) :
    (storeCells ⟨b, 0, none⟩ (arr n fun i => .int k (g i)).toList 0).run Try.prog w = .ok () (w.setRow b (arr n fun i => .int k (g i))) := by
  have hb := row_block h
  have := run_storeCells_from (P := Try.prog) b t (arr n fun i => .int k (g i)).toList 0 (arr n f) w hb (by simp [arr_size]) (arr_one n g k)
  simpa using this

theorem setRow_row {w : World} {b : Nat} {t : TypeId} {n : Nat} {f g : Nat → Value} (h : w.rowIs b t n f) : (w.setRow b (arr n g)).rowIs b t n g :=
  row_of_block (setRow_heap w b _ _ t _ (row_block h))

theorem below_setRow {B : Nat} {w w1 : World} (h : Below B w w1) {b : Nat} (hb : B ≤ b) (C : Array Value) : Below B w (w1.setRow b C) :=
  h.trans ⟨rfl, rfl, rfl, by simp, fun k hk => setRow_other w1 b k C (by omega)⟩

theorem row_setRow {w : World} {b b' : Nat} {t : TypeId} {n : Nat} {f : Nat → Value} (h : w.rowIs b t n f) (hb : b ≠ b') (C : Array Value) : (w.setRow b' C).rowIs b t n f :=
  h.of_block (setRow_other w b' b C hb)

theorem zero36 : #[Value.int IntKind.i64 0, Value.int IntKind.i64 0, Value.int IntKind.i64 0, Value.int IntKind.i64 0,
          Value.int IntKind.i64 0, Value.int IntKind.i64 0, Value.int IntKind.i64 0, Value.int IntKind.i64 0,
          Value.int IntKind.i64 0, Value.int IntKind.i64 0, Value.int IntKind.i64 0, Value.int IntKind.i64 0,
          Value.int IntKind.i64 0, Value.int IntKind.i64 0, Value.int IntKind.i64 0, Value.int IntKind.i64 0,
          Value.int IntKind.i64 0, Value.int IntKind.i64 0, Value.int IntKind.i64 0, Value.int IntKind.i64 0,
          Value.int IntKind.i64 0, Value.int IntKind.i64 0, Value.int IntKind.i64 0, Value.int IntKind.i64 0,
          Value.int IntKind.i64 0, Value.int IntKind.i64 0, Value.int IntKind.i64 0, Value.int IntKind.i64 0,
          Value.int IntKind.i64 0, Value.int IntKind.i64 0, Value.int IntKind.i64 0, Value.int IntKind.i64 0,
          Value.int IntKind.i64 0, Value.int IntKind.i64 0, Value.int IntKind.i64 0, Value.int IntKind.i64 0] = arr 36 (fun _ => .int .i64 ((0 : Nat) : Int)) := by rfl

theorem row_below {w w' : World} {B b : Nat} {t : TypeId} {n : Nat} {f : Nat → Value} (h : w.rowIs b t n f) (hb : Below B w w') (hB : b < B) : w'.rowIs b t n f := h.of_block (hb.block b hB)
theorem below_step {w w1 w2 : World} (h1 : Below w.heap.size w w1) (h2 : Below w1.heap.size w1 w2) : Below w.heap.size w w2 := h1.trans (h2.mono h1.size)
def upd {α : Type} (f : Nat → α) (i : Nat) (v : α) : Nat → α := fun j => if j = i then v else f j
/-- a store into a row whose cells are a function of the content -/
theorem row_upd {α : Type} {w : World} {b : Nat} {t : TypeId} {n k : Nat} {f : Nat → α} {c : α → Value} (h : w.rowIs b t n (fun j => c (f j))) (v : α) :
    (w.setCell ⟨b, k, none⟩ (c v)).rowIs b t n (fun j => c (upd f k v j)) := by
  refine (h.set k (c v)).congr fun j _ => ?_
  by_cases e : j = k
  · subst e; simp [upd]
  · simp [upd, e]

end Go.Proofs.Qxb6603993a
