import Derived.Test.Qxb6603969aS13
import Derived.Laws.CopyOwn
namespace Go.Proofs.Qxb6603969a
open Go.RowKit
set_option linter.unusedVariables false

theorem Try.info48 : (Try.prog.info? 48).map (fun i => (i.zero, i.size, i.bytes)) = some (some (.int .u16 0), 1, 2) := by kernel_rfl
theorem Try.info53 : (Try.prog.info? 53).map (fun i => (i.zero, i.size, i.bytes)) = some (some (.int .u16 0), 1, 2) := by kernel_rfl

/-- a full row of the callee's own, or nil -/
def Own (base : Nat) (w : World) (t : TypeId) (v : Value) (xs : List Value) : Prop :=
  (v = .slice none 0 0 ∧ xs = []) ∨ ∃ g, v = .slice (some ⟨g, 0, none⟩) xs.length xs.length ∧ base ≤ g ∧ w.heap[g]? = some (.cells xs.toArray t (0, 0))

def ClonePost (t : TypeId) (xs : List Value) (w : World) (e : Ending) (w' : World) : Prop :=
  ∃ v, e = .returned v ∧ Own w.heap.size w' t v xs ∧ Below w.heap.size w w'

/-- what is told of a slice that came in: its elements -/
def Elems (w : World) (a : Option Addr) (xs : List Value) : Prop := ∀ j v, xs[j]? = some v → ∃ x, a = some x ∧ w.cell? (x.add j) = some v

theorem madeCells_size (z : Value) (n : Nat) : (madeCells #[z] n).size = n := by
  have h := (World.rowIs_made (default : World) z n 5)
  obtain ⟨C, hC, hs, _⟩ := h
  have e : (((default : World).alloc (.cells (madeCells #[z] n) 5)).heap[(default : World).heap.size]?) = some (.cells (madeCells #[z] n) 5) := heap_alloc_new _ _
  rw [e] at hC
  cases hC
  exact hs

/-- make and copy: the whole of the elements -/
theorem copy_whole (ty t e : TypeId) (z : Value) (ht : Try.prog.underlying t = some (.slice e)) (hi : (Try.prog.info? e).map (·.size) = some 1) (x : Addr) (cap : Nat) (xs : List Value) (h1 : ∀ v ∈ xs, v.oneCell' = true) (w : World) (hE : Elems w (some x) xs) :
    ∃ W, (Builtin.copy_ #[t, t] ty #[.slice (some ⟨w.heap.size, 0, none⟩) xs.length xs.length, .slice (some x) xs.length cap]).run Try.prog (w.alloc (.cells (madeCells #[z] xs.length) e)) = .ok (.int .i64 xs.length) W ∧
      Aside (W.heap[w.heap.size]? = some (.cells xs.toArray e (0, 0)) ∧ Below w.heap.size w W) := by
  have hg : (w.alloc (.cells (madeCells #[z] xs.length) e)).heap[w.heap.size]? = some (.cells (madeCells #[z] xs.length) e (0, 0)) := heap_alloc_new _ _
  have hb : Below w.heap.size w (w.alloc (.cells (madeCells #[z] xs.length) e)) := (Below.refl _ _).alloc (Nat.le_refl _) _
  have hrun := run_copy_row (P := Try.prog) (w.alloc (.cells (madeCells #[z] xs.length) e)) t t ty e w.heap.size 0 xs.length xs.length x xs.length cap (madeCells #[z] xs.length) e xs ht hi hg (by simp)
    (fun j v hj => by
      obtain ⟨x', hx, hc⟩ := hE j v hj
      obtain rfl := Option.some.inj hx
      exact cell_later hb hc) (by rw [madeCells_size]; omega) h1
  refine ⟨_, hrun, ?_, below_setRow hb (Nat.le_refl _) _⟩
  rw [setRow_heap _ _ _ _ _ _ hg]
  congr 3
  simp [madeCells_size]

theorem clone10 (a : Option Addr) (len cap : Nat) (zs : List Int) (w : World) (hE : Elems w a (zs.map (.int .u8))) (hn : a = none → zs = []) (hl : zs.length = len) (hb : zs.length ≤ 1048576) :
    Calls Try.prog 10 #[.slice a len cap] w fun e w' => ClonePost 5 (zs.map (.int .u8)) w e w' := by
  subst hl
  have q28 : ∀ (w : World) (a : Option Addr) (n c n' c' : Nat), (binOp .eql 22 (.slice a n c) (.slice none n' c')).run Try.prog w = .ok (.bool a.isNone) w := fun w a n c n' c' => Lib.run_eql_slice_nil w _ _ a n c n' c' Try.underlying22
  have hmk := run_make_row' (P := Try.prog) 22 5 (.int .u8 0) _ Try.underlying22 Try.info5 rfl .i64 .i64 zs.length (by omega) (by omega)
  cases a with
  | none =>
    obtain rfl := hn rfl
    go_enter Try.func10, Try.ntmps10
    go_wp2
    go_ret
    exact ⟨_, rfl, .inl ⟨rfl, rfl⟩, Below.refl _ _⟩
  | some x =>
    obtain ⟨W, hcp, HW⟩ := copy_whole 3 22 5 (.int .u8 0) Try.underlying22 (by kernel_rfl) x cap (zs.map (.int .u8)) (by intro v hv; obtain ⟨n, _, rfl⟩ := List.mem_map.1 hv; rfl) w hE
    rw [List.length_map] at hcp
    clear hE hn
    go_enter Try.func10, Try.ntmps10
    go_wp2
    go_ret
    exact ⟨_, rfl, .inr ⟨w.heap.size, by rw [List.length_map]; rfl, Nat.le_refl _, HW.out.1⟩, HW.out.2⟩

theorem clone26 (a : Option Addr) (len cap : Nat) (zs : List Int) (w : World) (hE : Elems w a (zs.map (.int .u16))) (hn : a = none → zs = []) (hl : zs.length = len) (hb : zs.length ≤ 1048576) :
    Calls Try.prog 26 #[.slice a len cap] w fun e w' => ClonePost 48 (zs.map (.int .u16)) w e w' := by
  subst hl
  have q28 : ∀ (w : World) (a : Option Addr) (n c n' c' : Nat), (binOp .eql 41 (.slice a n c) (.slice none n' c')).run Try.prog w = .ok (.bool a.isNone) w := fun w a n c n' c' => Lib.run_eql_slice_nil w _ _ a n c n' c' Try.underlying41
  have hmk := run_make_row' (P := Try.prog) 41 48 (.int .u16 0) _ Try.underlying41 Try.info48 rfl .i64 .i64 zs.length (by omega) (by omega)
  cases a with
  | none =>
    obtain rfl := hn rfl
    go_enter Try.func26, Try.ntmps26
    go_wp2
    go_ret
    exact ⟨_, rfl, .inl ⟨rfl, rfl⟩, Below.refl _ _⟩
  | some x =>
    obtain ⟨W, hcp, HW⟩ := copy_whole 3 41 48 (.int .u16 0) Try.underlying41 (by kernel_rfl) x cap (zs.map (.int .u16)) (by intro v hv; obtain ⟨n, _, rfl⟩ := List.mem_map.1 hv; rfl) w hE
    rw [List.length_map] at hcp
    clear hE hn
    go_enter Try.func26, Try.ntmps26
    go_wp2
    go_ret
    exact ⟨_, rfl, .inr ⟨w.heap.size, by rw [List.length_map]; rfl, Nat.le_refl _, HW.out.1⟩, HW.out.2⟩

end Go.Proofs.Qxb6603969a
