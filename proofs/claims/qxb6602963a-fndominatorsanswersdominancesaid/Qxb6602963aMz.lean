import Derived.Test.Qxb6602963aAns
import Derived.OwnWalk
namespace Go.Proofs.Qxb6602963a
open Go.RowKit
set_option linter.unusedVariables false

/-- what ZZDominators leaves -/
def ZPost (n L src : Nat) (pf pr : Nat → Nat) (w : World) (e : Ending) (w' : World) : Prop :=
  ∃ (bp bq bs : Nat) (preV postV span : Nat → Int), e = .returned (.tuple #[.slice (some ⟨bp, 0, none⟩) n n, .slice (some ⟨bq, 0, none⟩) n n, .slice (some ⟨bs, 0, none⟩) n n]) ∧ Arr w' bp n preV ∧ Arr w' bq n postV ∧ Arr w' bs n span ∧ Below w.heap.size w w' ∧
    ∀ (sf2 sc2 : Nat → Nat) (S : Nat → Bool), Gr n L sf2 sc2 → (∀ u v, u < n → v < n → (Go1 sf2 sc2 u v ↔ Fits n pf pr u v)) → (∀ v, v < n → (S v = true ↔ RV (Go1 sf2 sc2) src (-1) v)) → Ans n src (Go1 sf2 sc2) (Fits n pf pr) S preV postV span

/-- zzClone of any slice -/
def ClonedAny (w : World) (n : Nat) (f : Nat → Value) (e : Ending) (w' : World) : Prop :=
  ∃ a c, e = .returned (.slice a n c) ∧ n ≤ c ∧ Reads w' a n f ∧ Below w.heap.size w w'

theorem clone_any (a : Option Addr) (len cap : Nat) (f : Nat → Int) (w : World) (hr : Reads w a len (fun i => .int .i32 (f i))) (hl : len ≤ 1048576) :
    Calls Try.prog 11 #[.slice a len cap] w fun e w' => ClonedAny w len (fun i => .int .i32 (f i)) e w' := by
  cases a with
  | some x =>
    refine (clone11 x len cap f w hr hl).mono fun e w' h => ?_
    obtain ⟨b, rfl, hrow, hb, hbel⟩ := h
    exact ⟨_, _, rfl, Nat.le_refl _, Reads.of_row hrow, hbel⟩
  | none =>
    have hl0 : len = 0 := by
      rcases Nat.eq_zero_or_pos len with h | h
      · exact h
      · obtain ⟨b, o, e, _⟩ := hr h
        cases e
    subst hl0
    have q22 : ∀ (w : World) (a : Option Addr) (n c n' c' : Nat), (binOp .eql 22 (.slice a n c) (.slice none n' c')).run Try.prog w = .ok (.bool a.isNone) w := fun w a n c n' c' => Lib.run_eql_slice_nil w _ _ a n c n' c' Try.underlying22
    clear hr
    go_enter Try.func11, Try.ntmps11
    go_wp2
    go_ret
    exact ⟨none, 0, rfl, Nat.le_refl _, fun h => absurd h (by omega), Below.refl _ _⟩

/-- the memory of the law's loops -/
structure MZ (w wr : World) (n L b1 : Nat) (a2 : Option Addr) (bp bq bs b3 b4 bR B : Nat) (pf pr sf sc : Nat → Nat) (pre post span : Nat → Int) (S : Nat → Bool) : Prop where
  bel : Below w.heap.size w wr
  r1 : Row wr b1 0 (n + 1) pf
  r2 : 0 < L → ∃ b2 o2, a2 = some ⟨b2, o2, none⟩ ∧ b2 < B ∧ Row wr b2 o2 L pr
  ap : Arr wr bp n pre
  aq : Arr wr bq n post
  asp : Arr wr bs n span
  a3 : Arr wr b3 (n + 1) (fun i => (sf i : Int))
  a4 : Arr wr b4 L (fun i => (sc i : Int))
  aR : Bools wr bR n S
  lt : b1 < B ∧ bp < B ∧ bq < B ∧ bs < B ∧ b3 < B ∧ b4 < B ∧ bR < B
  sz : w.heap.size ≤ B ∧ B ≤ wr.heap.size

theorem row_blocks {w w' : World} {b o n : Nat} {f : Nat → Nat} (h : Row w b o n f) (e : w'.heap[b]? = w.heap[b]?) : Row w' b o n f := fun i hi => by
  have := h i hi
  simp only [World.cell?, e] at this ⊢
  exact this

theorem MZ.later {w wr : World} {n L b1 : Nat} {a2 : Option Addr} {bp bq bs b3 b4 bR B : Nat} {pf pr sf sc : Nat → Nat} {pre post span : Nat → Int} {S : Nat → Bool} (h : MZ w wr n L b1 a2 bp bq bs b3 b4 bR B pf pr sf sc pre post span S) {w1 : World} (k : Below B wr w1) : MZ w w1 n L b1 a2 bp bq bs b3 b4 bR B pf pr sf sc pre post span S := by
  obtain ⟨l1, l2, l3, l4, l5, l6, l7⟩ := h.lt
  refine ⟨h.bel.trans (k.mono h.sz.1), row_blocks h.r1 (k.block _ l1), fun h0 => ?_, h.ap.of_block (k.block _ l2), h.aq.of_block (k.block _ l3), h.asp.of_block (k.block _ l4), h.a3.of_block (k.block _ l5), h.a4.of_block (k.block _ l6), World.rowIs.of_block h.aR (k.block _ l7), h.lt, h.sz.1, by have := k.size; have := h.sz.2; omega⟩
  obtain ⟨b2, o2, e, hb, hr⟩ := h.r2 h0
  exact ⟨b2, o2, e, hb, row_blocks hr (k.block _ hb)⟩

theorem MZ.drewN {w wr : World} {n L b1 : Nat} {a2 : Option Addr} {bp bq bs b3 b4 bR B : Nat} {pf pr sf sc : Nat → Nat} {pre post span : Nat → Int} {S : Nat → Bool} (h : MZ w wr n L b1 a2 bp bq bs b3 b4 bR B pf pr sf sc pre post span S) (q : Nat) : MZ w (wr.drewN q) n L b1 a2 bp bq bs b3 b4 bR B pf pr sf sc pre post span S :=
  h.later ⟨rfl, rfl, rfl, Nat.le_refl _, fun _ _ => rfl⟩

end Go.Proofs.Qxb6602963a
