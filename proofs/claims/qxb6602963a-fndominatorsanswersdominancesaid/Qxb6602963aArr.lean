import Derived.Test.Qxb6602963aG3
namespace Go.Proofs.Qxb6602963a
open Go.RowKit
set_option linter.unusedVariables false

/-- block b begins with n numbers, none frozen -/
def Arr (w : World) (b n : Nat) (f : Nat → Int) : Prop := ∃ C t, w.heap[b]? = some (.cells C t (0, 0)) ∧ n ≤ C.size ∧ ∀ i, i < n → C[i]? = some (.int .i32 (f i))

section
variable {w w' : World} {b n : Nat} {f g : Nat → Int}
theorem Arr.lt (h : Arr w b n f) : b < w.heap.size := by
  obtain ⟨C, t, hC, _⟩ := h
  exact (Array.getElem?_eq_some_iff.1 hC).1
theorem Arr.cell (h : Arr w b n f) {i : Nat} (hi : i < n) : w.cell? ⟨b, i, none⟩ = some (.int .i32 (f i)) := by
  obtain ⟨C, t, hC, hs, hc⟩ := h
  rw [← hc i hi]; simp [World.cell?, hC]
theorem Arr.frozen (h : Arr w b n f) (i : Nat) : w.frozen? ⟨b, i, none⟩ = false := by
  obtain ⟨C, t, hC, hs, hc⟩ := h
  simp [World.frozen?, hC]
theorem Arr.of_block (h : Arr w b n f) (e : w'.heap[b]? = w.heap[b]?) : Arr w' b n f := by
  obtain ⟨C, t, hC, r⟩ := h
  exact ⟨C, t, e.trans hC, r⟩
theorem Arr.congr (h : Arr w b n f) (e : ∀ i, i < n → f i = g i) : Arr w b n g := by
  obtain ⟨C, t, hC, hs, hc⟩ := h
  exact ⟨C, t, hC, hs, fun i hi => by rw [← e i hi]; exact hc i hi⟩
theorem Arr.mono {k : Nat} (h : Arr w b n f) (hk : k ≤ n) : Arr w b k f := by
  obtain ⟨C, t, hC, hs, hc⟩ := h
  exact ⟨C, t, hC, by omega, fun i hi => hc i (by omega)⟩
theorem Arr.upd (h : Arr w b n f) (k : Nat) (v : Int) : Arr (w.setCell ⟨b, k, none⟩ (.int .i32 v)) b n (updN f k v) := by
  obtain ⟨C, t, hC, hs, hc⟩ := h
  have h1 := Go.heap_setCell_same w b k C t (.int .i32 v) hC
  refine ⟨_, t, h1, by simp; exact hs, fun i hi => ?_⟩
  by_cases e : i = k
  · subst e
    rw [updN_same]
    have : i < C.size := by omega
    simp [this]
  · rw [updN_ne _ _ e]
    simp [Ne.symm e, hc i hi]
theorem Arr.other (h : Arr w b n f) {a : Addr} (ha : b ≠ a.block) (v : Value) : Arr (w.setCell a v) b n f := h.of_block (Below.heap_setCell _ _ _ _ ha)
theorem Arr.alloc (h : Arr w b n f) (o : Obj) : Arr (w.alloc o) b n f := h.of_block (heap_alloc_old _ _ h.lt)
theorem Arr.drew (h : Arr w b n f) : Arr w.drew b n f := h
theorem Arr.drewN (h : Arr w b n f) (k : Nat) : Arr (w.drewN k) b n f := h
theorem Arr.made (w : World) (n : Nat) : Arr (w.alloc (.cells (madeCells #[.int .i32 0] n) 21)) w.heap.size n (fun _ => 0) := by
  obtain ⟨C, h1, h2, h3⟩ := World.rowIs_made w (.int .i32 0) n 21
  exact ⟨C, 21, h1, by omega, h3⟩
theorem Nums32.arr {f : Nat → Nat} (h : Nums32 w b n f) : Arr w b n (fun i => (f i : Int)) := by
  obtain ⟨C, h1, h2, h3⟩ := h
  exact ⟨C, 21, h1, by omega, h3⟩
theorem Arr.below (h : Arr w b n f) (hb : Below w.heap.size w w') : Arr w' b n f := h.of_block (hb.block b h.lt)
theorem Arr.row {f : Nat → Nat} (h : Arr w b n (fun i => (f i : Int))) : Row w b 0 n f := fun i hi => by rw [Nat.zero_add]; exact h.cell hi
theorem Arr.reads (h : Arr w b n f) : Reads w (some ⟨b, 0, none⟩) n (fun i => .int .i32 (f i)) := fun _ => ⟨b, 0, rfl, fun i hi => by rw [Nat.zero_add]; exact h.cell hi⟩
/-- an own slice's row -/
theorem arr_owns {base k : Nat} {v : Value} {xs : List Value} (h : w.ownsRow base 21 1 v k xs) (hk : 0 < k) (f : Nat → Int) (hf : ∀ i, i < k → xs[i]? = some (.int .i32 (f i))) : ∃ g cap, v = .slice (some ⟨g, 0, none⟩) k cap ∧ base ≤ g ∧ k ≤ cap ∧ Arr w g k f := by
  obtain ⟨hl, h0⟩ := h
  rcases h0 with ⟨_, h0⟩ | ⟨g, cap, cur, rfl, hb, hg, hle, hml, hcs, htk⟩
  · omega
  · refine ⟨g, cap, rfl, hb, hle, cur, 21, hg, by omega, fun i hi => ?_⟩
    have e1 : (cur.toList.take (k * 1))[i]? = xs[i]? := by rw [htk]
    rw [List.getElem?_take, if_pos (by omega), hf i hi] at e1
    simpa using e1
end
end Go.Proofs.Qxb6602963a
