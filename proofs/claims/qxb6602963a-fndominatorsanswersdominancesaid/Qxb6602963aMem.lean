import Derived.Test.Qxb6602963aChecked
import Derived.WalkSpells
import Derived.WalkLawsBesides
import Derived.Deep.OwnRows
import Derived.Deep.LoopGhost
import Derived.Deep.Light
import Derived.Deep.QuietTactic
import Derived.Deep.DeepCutAuto
import Derived.BigQuiet
import Derived.BigRegion
namespace Go.Proofs.Qxb6602963a
open Go.RowKit

/-- A slice value's address 'a' leads, in 'w', to n cells holding f 0, f 1, ... (nothing is said where n is 0). -/
def Reads (w : World) (a : Option Addr) (n : Nat) (f : Nat → Value) : Prop :=
  0 < n → ∃ b off, a = some ⟨b, off, none⟩ ∧ ∀ i, i < n → w.cell? ⟨b, off + i, none⟩ = some (f i)

theorem Reads.below {w w' : World} {a : Option Addr} {n : Nat} {f : Nat → Value} (h : Reads w a n f) (hb : Below w.heap.size w w') : Reads w' a n f := by
  intro hn
  obtain ⟨b, off, ha, hc⟩ := h hn
  exact ⟨b, off, ha, fun i hi => cell_later hb (hc i hi)⟩

theorem Reads.of_row {w : World} {b : Nat} {t : TypeId} {n : Nat} {f : Nat → Value} (h : w.rowIs b t n f) : Reads w (some ⟨b, 0, none⟩) n f := by
  intro _
  exact ⟨b, 0, rfl, fun i hi => by simpa using h.cell hi⟩

theorem Try.info21 : (Try.prog.info? 21).map (fun i => (i.zero, i.size, i.bytes)) = some (some (.int .i32 0), 1, 4) := by kernel_rfl
theorem Try.info4 : (Try.prog.info? 4).map (fun i => (i.zero, i.size, i.bytes)) = some (some (.bool false), 1, 1) := by kernel_rfl
theorem Try.info40 : (Try.prog.info? 40).map (fun i => (i.zero, i.size, i.bytes)) = some (some (.int .i8 0), 1, 1) := by kernel_rfl

theorem row_step {w : World} {b : Nat} {t : TypeId} {n k : Nat} {f : Nat → Value} {z : Value} (h : w.rowIs b t n (fun j => if j < k then f j else z)) :
    (w.setCell ⟨b, k, none⟩ (f k)).rowIs b t n (fun j => if j < k + 1 then f j else z) := by
  refine (h.set k (f k)).congr fun j _ => ?_
  by_cases e : j = k
  · subst e; simp
  · rw [if_neg e]
    by_cases hlt : j < k
    · rw [if_pos hlt, if_pos (by omega)]
    · rw [if_neg hlt, if_neg (by omega)]

theorem row_below {w w' : World} {B b : Nat} {t : TypeId} {n : Nat} {f : Nat → Value} (h : w.rowIs b t n f) (hb : Below B w w') (hB : b < B) : w'.rowIs b t n f := h.of_block (hb.block b hB)

theorem below_step {w w1 w2 : World} (h1 : Below w.heap.size w w1) (h2 : Below w1.heap.size w1 w2) : Below w.heap.size w w2 := h1.trans (h2.mono h1.size)

def upd {α : Type} (f : Nat → α) (i : Nat) (v : α) : Nat → α := fun j => if j = i then v else f j
theorem upd_same {α : Type} (f : Nat → α) (i : Nat) (v : α) : upd f i v i = v := by simp [upd]
theorem upd_other {α : Type} (f : Nat → α) (i j : Nat) (v : α) (h : j ≠ i) : upd f i v j = f j := by simp [upd, h]

/-- a store into a row whose cells are a function of the content -/
theorem row_upd {α : Type} {w : World} {b : Nat} {t : TypeId} {n k : Nat} {f : Nat → α} {c : α → Value} (h : w.rowIs b t n (fun j => c (f j))) (v : α) :
    (w.setCell ⟨b, k, none⟩ (c v)).rowIs b t n (fun j => c (upd f k v j)) := by
  refine (h.set k (c v)).congr fun j _ => ?_
  by_cases e : j = k
  · subst e; simp [upd]
  · simp [upd, e]

/-- What a clone hands back: a slice of the same length and content in new memory (or nil). -/
def Cloned (w : World) (n : Nat) (f : Nat → Value) (e : Ending) (w' : World) : Prop :=
  ∃ a' cap', e = .returned (.slice a' n cap') ∧ Reads w' a' n f ∧ Below w.heap.size w w'

/-- .. of a slice that is not empty: a row of the call's own -/
def ClonedRow (w : World) (t n : Nat) (f : Nat → Value) (e : Ending) (w' : World) : Prop :=
  ∃ b, e = .returned (.slice (some ⟨b, 0, none⟩) n n) ∧ w'.rowIs b t n f ∧ w.heap.size ≤ b ∧ Below w.heap.size w w'

theorem clone11 (x : Addr) (len cap : Nat) (f : Nat → Int) (w : World) (hr : Reads w (some x) len (fun i => .int .i32 (f i))) (hl : len ≤ 1048576) :
    Calls Try.prog 11 #[.slice (some x) len cap] w fun e w' => ClonedRow w 21 len (fun i => .int .i32 (f i)) e w' := by
  have q22 : ∀ (w : World) (a : Option Addr) (n c n' c' : Nat), (binOp .eql 22 (.slice a n c) (.slice none n' c')).run Try.prog w = .ok (.bool a.isNone) w := fun w a n c n' c' => Lib.run_eql_slice_nil w _ _ a n c n' c' Try.underlying22
  have hmk := run_make_row' (P := Try.prog) 22 21 (.int .i32 0) 4 Try.underlying22 Try.info21 rfl .i64 .i64 len (by omega) (by omega)
  go_enter Try.func11, Try.ntmps11
  go_wp2
  clear hmk q22
  go_loopg [4] len (fun g i wr => ∃ k : Nat, k ≤ len ∧ g = len - k ∧ i = .int .i64 k ∧ Below w.heap.size w wr ∧ wr.rowIs w.heap.size 21 len (fun j => if j < k then .int .i32 (f j) else .int .i32 0))
  case atStart => exact ⟨0, Nat.zero_le _, rfl, rfl, (Below.refl _ _).alloc (Nat.le_refl _) _, (World.rowIs_made w _ len 21).congr (fun j _ => by simp)⟩
  case round =>
    obtain ⟨k, hk, rfl, rfl, hbel, hrow⟩ := hrel
    by_cases hlt : k < len
    · have hlz : (k : Int) < (len : Int) := by omega
      obtain ⟨b, off, hx, hc⟩ := hr (by omega)
      obtain rfl := Option.some.inj hx
      have g0 : wr.cell? ⟨b, off + k, none⟩ = some (.int .i32 (f k)) := cell_later hbel (hc k hlt)
      have g1 := hrow.cell hlt
      have g2 := hrow.frozen k
      simp only [Nat.lt_irrefl, if_false] at g1
      have A : Aside (Below w.heap.size w wr ∧ wr.rowIs w.heap.size 21 len (fun j => if j < k then .int .i32 (f j) else .int .i32 0)) := ⟨hbel, hrow⟩
      clear hbel hrow hc hr hx
      go_wp2
      go_roundg (len - (k + 1))
      case rel =>
        go_light
        obtain ⟨hbel, hrow⟩ := A.out
        exact ⟨k + 1, by omega, rfl, by go_num, hbel.setCell (Nat.le_refl _) _, row_step (f := fun j => .int .i32 (f j)) hrow⟩
      case measure => go_light; omega
    · have hlz : ¬ (k : Int) < (len : Int) := by omega
      obtain rfl : k = len := by omega
      have A : Aside (Below w.heap.size w wr ∧ wr.rowIs w.heap.size 21 k (fun j => if j < k then .int .i32 (f j) else .int .i32 0)) := ⟨hbel, hrow⟩
      clear hbel hrow hr
      go_wp2
      go_ret
      obtain ⟨hbel, hrow⟩ := A.out
      exact ⟨_, rfl, hrow.congr fun j hj => by rw [if_pos hj], Nat.le_refl _, hbel⟩

def AnyBool (w : World) (e : Ending) (w' : World) : Prop := ∃ b, e = .returned (.bool b) ∧ w' = w

set_option linter.unusedVariables false in
theorem bytes8 (a0 a1 a2 : Option Addr) (n0 n1 n2 c0 c1 c2 : Nat) (x : Int) (w : World)
    (h0 : n0 ≤ maxLen) (h1 : n1 ≤ maxLen) (h2 : n2 ≤ maxLen) :
    Calls Try.prog 8 #[.slice a0 n0 c0, .slice a1 n1 c1, .slice a2 n2 c2, .int .i32 x] w fun e w' => AnyBool w e w' := by
  unfold maxLen at h0 h1 h2
  go_enter Try.func8, Try.ntmps8
  go_wp2
  all_goals (go_ret; exact ⟨_, rfl, rfl⟩)
end Go.Proofs.Qxb6602963a
