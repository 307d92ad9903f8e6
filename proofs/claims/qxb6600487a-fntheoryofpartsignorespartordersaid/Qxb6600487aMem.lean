import Derived.Test.Qxb6600487aChecked
import Derived.WalkSpells
import Derived.WalkLawsBesides
import Derived.Deep.OwnRows
import Derived.Deep.LoopGhost
import Derived.Deep.Light
import Derived.Deep.QuietTactic
import Derived.BigQuiet
import Derived.BigRegion
namespace Go.Proofs.Qxb6600487a
open Go.RowKit

/-- A slice value's address 'a' leads, in 'w', to n cells holding f 0, f 1, ... (nothing is said where n is 0). -/
def Reads (w : World) (a : Option Addr) (n : Nat) (f : Nat → Value) : Prop :=
  0 < n → ∃ b off, a = some ⟨b, off, none⟩ ∧ ∀ i, i < n → w.cell? ⟨b, off + i, none⟩ = some (f i)

theorem Reads.below {w w' : World} {a : Option Addr} {n : Nat} {f : Nat → Value} (h : Reads w a n f) (hb : Below w.heap.size w w') : Reads w' a n f := by
  intro hn
  obtain ⟨b, off, ha, hc⟩ := h hn
  exact ⟨b, off, ha, fun i hi => cell_later hb (hc i hi)⟩

theorem Reads.of_row {w : World} {b : Nat} {t : TypeId} {n : Nat} {f : Nat → Value} (h : w.rowIs b t n f) : Reads w (some ⟨b, 0, none⟩) n f := by
  intro _
  exact ⟨b, 0, rfl, fun i hi => by simpa using h.cell hi⟩

/-- 'Since' is 'Below'. -/
theorem below_of_since {B : Nat} {w w' : World} (h : w.Since B w') : Below B w w' := ⟨h.os, h.tape, h.output, h.size, h.block⟩

theorem Try.info3 : (Try.prog.info? 3).map (fun i => (i.zero, i.size, i.bytes)) = some (some (.int .i64 0), 1, 8) := by kernel_rfl
theorem Try.info4 : (Try.prog.info? 4).map (fun i => (i.zero, i.size, i.bytes)) = some (some (.bool false), 1, 1) := by kernel_rfl
theorem Try.info5 : (Try.prog.info? 5).map (fun i => (i.zero, i.size, i.bytes)) = some (some (.int .u8 0), 1, 1) := by kernel_rfl

theorem row_step {w : World} {b : Nat} {t : TypeId} {n k : Nat} {f : Nat → Value} {z : Value} (h : w.rowIs b t n (fun j => if j < k then f j else z)) :
    (w.setCell ⟨b, k, none⟩ (f k)).rowIs b t n (fun j => if j < k + 1 then f j else z) := by
  refine (h.set k (f k)).congr fun j _ => ?_
  by_cases e : j = k
  · subst e; simp
  · rw [if_neg e]
    by_cases hlt : j < k
    · rw [if_pos hlt, if_pos (by omega)]
    · rw [if_neg hlt, if_neg (by omega)]

/-- What a clone hands back: a slice of the same length and content in new memory (or nil). -/
def Cloned (w : World) (n : Nat) (f : Nat → Value) (e : Ending) (w' : World) : Prop :=
  ∃ a' cap', e = .returned (.slice a' n cap') ∧ Reads w' a' n f ∧ Below w.heap.size w w'
end Go.Proofs.Qxb6600487a
