import Derived.Test.Qxb6602963aMem
import Derived.Test.Qxb6602963aTree
namespace Go.Proofs.Qxb6602963a
open Go.RowKit
set_option linter.unusedVariables false

/-- does v head its tree? as Go asks it -/
def headB (zl zr zu : Nat → Int) (v : Nat) : Bool := zu v == 0 || (zl (zu v).toNat != (v : Int) && zr (zu v).toNat != (v : Int))

/-- zzHeads -/
theorem heads10 (p0 o0 p1 o1 p2 o2 n c0 c1 c2 v : Nat) (zl zr zu : Nat → Int) (w : World) (hn : n ≤ 65536) (hv : v < n)
    (g0 : ∀ i, i < n → w.cell? ⟨p0, o0 + i, none⟩ = some (.int .i32 (zl i))) (g1 : ∀ i, i < n → w.cell? ⟨p1, o1 + i, none⟩ = some (.int .i32 (zr i))) (g2 : ∀ i, i < n → w.cell? ⟨p2, o2 + i, none⟩ = some (.int .i32 (zu i)))
    (hu0 : 0 ≤ zu v) (hu1 : zu v < n) :
    Calls Try.prog 10 #[.slice (some ⟨p0, o0, none⟩) n c0, .slice (some ⟨p1, o1, none⟩) n c1, .slice (some ⟨p2, o2, none⟩) n c2, .int .i32 (v : Int)] w fun e w' => e = .returned (.bool (headB zl zr zu v)) ∧ w' = w := by
  have h2 := g2 v hv
  have h0 := g0 (zu v).toNat (by omega)
  have h1 := g1 (zu v).toNat (by omega)
  clear g0 g1 g2
  unfold headB
  generalize zu v = uv at *
  generalize zl uv.toNat = a at *
  generalize zr uv.toNat = b at *
  by_cases q0 : uv = 0
  · subst q0
    clear h0 h1
    go_enter Try.func10, Try.ntmps10
    go_wp2
    go_ret
    exact ⟨by simp, rfl⟩
  · have q0' : (uv == 0) = false := by simpa using q0
    by_cases q1 : a = v
    · subst q1
      go_enter Try.func10, Try.ntmps10
      go_wp2
      go_ret
      exact ⟨by simp [q0], rfl⟩
    · have q1' : (a != (v : Int)) = true := by simpa using q1
      go_enter Try.func10, Try.ntmps10
      go_wp2
      go_ret
      exact ⟨by rw [q0', q1']; simp, rfl⟩

/-- the linkCut at s: its three rows -/
structure RW (B : Nat) (w wr : World) (s bl br bu L : Nat) (zl zr zu : Nat → Int) : Prop where
  bel : Below B w wr
  rl : wr.rowIs bl 21 L (fun j => .int .i32 (zl j))
  rr : wr.rowIs br 21 L (fun j => .int .i32 (zr j))
  ru : wr.rowIs bu 21 L (fun j => .int .i32 (zu j))
  s0 : wr.cell? ⟨s, 0, none⟩ = some (.slice (some ⟨bl, 0, none⟩) L L)
  s1 : wr.cell? ⟨s, 1, none⟩ = some (.slice (some ⟨br, 0, none⟩) L L)
  s2 : wr.cell? ⟨s, 2, none⟩ = some (.slice (some ⟨bu, 0, none⟩) L L)

/-- (*linkCut).heads -/
theorem heads29 (B s bl br bu L v : Nat) (zl zr zu : Nat → Int) (w wr : World) (hn : L ≤ 65536) (hv : v < L) (h : RW B w wr s bl br bu L zl zr zu) (hu0 : 0 ≤ zu v) (hu1 : zu v < L) :
    Calls Try.prog 29 #[.pointer (some ⟨s, 0, none⟩), .int .i32 (v : Int)] wr fun e w' => e = .returned (.bool (headB zl zr zu v)) ∧ w' = wr := by
  have h2 := h.ru.cell hv
  have h0 := h.rl.cell (i := (zu v).toNat) (by omega)
  have h1 := h.rr.cell (i := (zu v).toNat) (by omega)
  have s0 := h.s0
  have s1 := h.s1
  have s2 := h.s2
  have hvz : (v : Int) < (L : Int) := by omega
  clear h
  unfold headB
  generalize zu v = uv at *
  generalize zl uv.toNat = a at *
  generalize zr uv.toNat = b at *
  by_cases q0 : uv = 0
  · subst q0
    clear h0 h1
    go_enter Try.func29, Try.ntmps29
    go_wp2
    go_ret
    exact ⟨by simp, rfl⟩
  · have q0' : (uv == 0) = false := by simpa using q0
    by_cases q1 : a = v
    · subst q1
      go_enter Try.func29, Try.ntmps29
      go_wp2
      go_ret
      exact ⟨by simp [q0], rfl⟩
    · have q1' : (a != (v : Int)) = true := by simpa using q1
      go_enter Try.func29, Try.ntmps29
      go_wp2
      go_ret
      exact ⟨by rw [q0', q1']; simp, rfl⟩
end Go.Proofs.Qxb6602963a
