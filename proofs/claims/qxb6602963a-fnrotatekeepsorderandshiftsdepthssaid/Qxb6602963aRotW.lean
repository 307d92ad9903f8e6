import Derived.Test.Qxb6602963aSmall
namespace Go.Proofs.Qxb6602963a
open Go.RowKit
set_option linter.unusedVariables false

structure Dis (B s bl br bu : Nat) : Prop where
  lr : bl ≠ br
  lu : bl ≠ bu
  ru : br ≠ bu
  sl : s ≠ bl
  sr : s ≠ br
  su : s ≠ bu
  bl : B ≤ bl
  br : B ≤ br
  bu : B ≤ bu

theorem RW.setL {B : Nat} {w wr : World} {s bl br bu L : Nat} {zl zr zu : Nat → Int} (h : RW B w wr s bl br bu L zl zr zu) (d : Dis B s bl br bu) (i : Nat) (v : Int) : RW B w (wr.setCell ⟨bl, i, none⟩ (.int .i32 v)) s bl br bu L (upd zl i v) zr zu :=
  ⟨h.bel.setCell d.bl _, row_upd (c := fun n : Int => .int .i32 n) h.rl v, h.rr.setOther d.lr.symm _, h.ru.setOther d.lu.symm _,
    by rw [World.cell?_setCell_other _ _ _ _ (fun e => d.sl.symm (congrArg Addr.block e))]; exact h.s0, by rw [World.cell?_setCell_other _ _ _ _ (fun e => d.sl.symm (congrArg Addr.block e))]; exact h.s1, by rw [World.cell?_setCell_other _ _ _ _ (fun e => d.sl.symm (congrArg Addr.block e))]; exact h.s2⟩
theorem RW.setR {B : Nat} {w wr : World} {s bl br bu L : Nat} {zl zr zu : Nat → Int} (h : RW B w wr s bl br bu L zl zr zu) (d : Dis B s bl br bu) (i : Nat) (v : Int) : RW B w (wr.setCell ⟨br, i, none⟩ (.int .i32 v)) s bl br bu L zl (upd zr i v) zu :=
  ⟨h.bel.setCell d.br _, h.rl.setOther d.lr _, row_upd (c := fun n : Int => .int .i32 n) h.rr v, h.ru.setOther d.ru.symm _,
    by rw [World.cell?_setCell_other _ _ _ _ (fun e => d.sr.symm (congrArg Addr.block e))]; exact h.s0, by rw [World.cell?_setCell_other _ _ _ _ (fun e => d.sr.symm (congrArg Addr.block e))]; exact h.s1, by rw [World.cell?_setCell_other _ _ _ _ (fun e => d.sr.symm (congrArg Addr.block e))]; exact h.s2⟩
theorem RW.setU {B : Nat} {w wr : World} {s bl br bu L : Nat} {zl zr zu : Nat → Int} (h : RW B w wr s bl br bu L zl zr zu) (d : Dis B s bl br bu) (i : Nat) (v : Int) : RW B w (wr.setCell ⟨bu, i, none⟩ (.int .i32 v)) s bl br bu L zl zr (upd zu i v) :=
  ⟨h.bel.setCell d.bu _, h.rl.setOther d.lu _, h.rr.setOther d.ru _, row_upd (c := fun n : Int => .int .i32 n) h.ru v,
    by rw [World.cell?_setCell_other _ _ _ _ (fun e => d.su.symm (congrArg Addr.block e))]; exact h.s0, by rw [World.cell?_setCell_other _ _ _ _ (fun e => d.su.symm (congrArg Addr.block e))]; exact h.s1, by rw [World.cell?_setCell_other _ _ _ _ (fun e => d.su.symm (congrArg Addr.block e))]; exact h.s2⟩
theorem RW.drew {B : Nat} {w wr : World} {s bl br bu L : Nat} {zl zr zu : Nat → Int} (h : RW B w wr s bl br bu L zl zr zu) : RW B w wr.drew s bl br bu L zl zr zu :=
  ⟨h.bel.drew, h.rl.drew, h.rr.drew, h.ru.drew, h.s0, h.s1, h.s2⟩

/-- the grandparent's kid is exchanged -/
def Step1 (zl zr zu : Nat → Int) (x p g : Nat) (zl1 zr1 : Nat → Int) : Prop :=
  (headB zl zr zu p = true ∧ zl1 = zl ∧ zr1 = zr) ∨ (headB zl zr zu p = false ∧ zl g = p ∧ zl1 = upd zl g x ∧ zr1 = zr) ∨ (headB zl zr zu p = false ∧ zl g ≠ p ∧ zl1 = zl ∧ zr1 = upd zr g x)

def upC (zu : Nat → Int) (c : Int) (p : Nat) : Nat → Int := if c = 0 then zu else upd zu c.toNat p

def Step2 (zl1 zr1 zu : Nat → Int) (x p g : Nat) (zl' zr' zu' : Nat → Int) : Prop :=
  (zl1 p = x ∧ zl' = upd zl1 p (zr1 x) ∧ zr' = upd zr1 x p ∧ zu' = upd (upC (upd zu x g) (zr1 x) p) p x) ∨
  (zl1 p ≠ x ∧ zr' = upd zr1 p (zl1 x) ∧ zl' = upd zl1 x p ∧ zu' = upd (upC (upd zu x g) (zl1 x) p) p x)

def RotPost (B : Nat) (w : World) (s bl br bu L : Nat) (zl zr zu : Nat → Int) (x p g : Nat) (e : Ending) (w' : World) : Prop :=
  e = .returned (.tuple #[]) ∧ ∃ zl1 zr1 zl' zr' zu', Step1 zl zr zu x p g zl1 zr1 ∧ Step2 zl1 zr1 zu x p g zl' zr' zu' ∧ RW B w w' s bl br bu L zl' zr' zu'

set_option maxHeartbeats 4000000 in
set_option maxRecDepth 100000 in
theorem rotate26 (B s bl br bu L x p g : Nat) (zl zr zu : Nat → Int) (w wr : World) (hn : L ≤ 65536) (h : RW B w wr s bl br bu L zl zr zu) (d : Dis B s bl br bu)
    (hx : x < L) (hp : p < L) (hg : g < L) (ex : zu x = p) (ep : zu p = g) (xp : x ≠ p) (gp : g ≠ p) (gx : g ≠ x) (lx : 0 ≤ zl x ∧ zl x < L) (rx : 0 ≤ zr x ∧ zr x < L)
    (lx' : zl x ≠ 0 → (zl x).toNat ≠ x ∧ (zl x).toNat ≠ p) (rx' : zr x ≠ 0 → (zr x).toNat ≠ x ∧ (zr x).toNat ≠ p) :
    Calls Try.prog 26 #[.pointer (some ⟨s, 0, none⟩), .int .i32 (x : Int)] wr fun e w' => RotPost B w s bl br bu L zl zr zu x p g e w' := by
  have H29 := heads29 B s bl br bu L p zl zr zu w wr hn hp h (by omega) (by omega)
  have s0 := h.s0
  have s1 := h.s1
  have s2 := h.s2
  have ux := h.ru.cell hx
  have up := h.ru.cell hp
  rw [ex] at ux
  rw [ep] at up
  have hxz : (x : Int) < (L : Int) := by omega
  have hpz : (p : Int) < (L : Int) := by omega
  have hgz : (g : Int) < (L : Int) := by omega
  go_enter Try.func26, Try.ntmps26
  go_upto_if 25 with (go_at_call 29; refine H29.mono ?_; rintro e w' ⟨rfl, rfl⟩)
  go_cut [6, 7] (fun v6 v7 wc => ∃ zl1 zr1, Step1 zl zr zu x p g zl1 zr1 ∧ RW B w wc s bl br bu L zl1 zr1 zu)
  case first =>
    have lg := h.rl.cell hg
    have rg := h.rr.cell hg
    have fl := h.rl.frozen g
    have fr := h.rr.frozen g
    have A : Aside (RW B w w' s bl br bu L zl zr zu) := h
    clear h H29
    cases hh : headB zl zr zu p with
    | true =>
      have hh' : Aside (headB zl zr zu p = true) := hh
      clear hh
      go_wp2
      go_meet
      case rel => exact ⟨zl, zr, .inl ⟨hh'.out, rfl, rfl⟩, A.out⟩
    | false =>
      have hh' : Aside (headB zl zr zu p = false) := hh
      clear hh
      by_cases q : zl g = p
      · rw [q] at lg
        have Q : Aside (zl g = p) := q
        clear q
        go_wp2
        go_meet
        case rel => exact ⟨_, zr, .inr (.inl ⟨hh'.out, Q.out, rfl, rfl⟩), A.out.setL d g x⟩
      · generalize hz : zl g = z at lg q
        have q' : (z == (p : Int)) = false := by simpa using q
        have Q : Aside (zl g ≠ p) := by rw [hz]; exact q
        clear q hz
        go_wp2
        go_meet
        case rel => exact ⟨zl, _, .inr (.inr ⟨hh'.out, Q.out, rfl, rfl⟩), A.out.setR d g x⟩
  case rest =>
    obtain ⟨zl1, zr1, hS, hR⟩ := hcut
    have E : Aside (zl1 x = zl x ∧ zr1 x = zr x) := by
      rcases hS with ⟨_, rfl, rfl⟩ | ⟨_, _, rfl, rfl⟩ | ⟨_, _, rfl, rfl⟩
      · exact ⟨rfl, rfl⟩
      · exact ⟨upd_other _ _ _ _ gx.symm, rfl⟩
      · exact ⟨rfl, upd_other _ _ _ _ gx.symm⟩
    have S : Aside (Step1 zl zr zu x p g zl1 zr1) := hS
    have A : Aside (RW B w wc s bl br bu L zl1 zr1 zu) := hR
    have s0 := hR.s0
    have s1 := hR.s1
    have s2 := hR.s2
    have ux := hR.ru.cell hx
    have up := hR.ru.cell hp
    rw [ex] at ux
    rw [ep] at up
    have lp := hR.rl.cell hp
    have rp := hR.rr.cell hp
    have lxc := hR.rl.cell hx
    have rxc := hR.rr.cell hx
    have fu1 := hR.ru.frozen x
    have fu2 := hR.ru.frozen p
    have fl1 := hR.rl.frozen p
    have fl2 := hR.rl.frozen x
    have fr1 := hR.rr.frozen p
    have fr2 := hR.rr.frozen x
    have D : Aside (Dis B s bl br bu) := d
    obtain ⟨d1, d2, d3, d4, d5, d6, _, _, _⟩ := d
    clear hS hR H29 h
    by_cases q : zl1 p = x
    · rw [q] at lp
      have Q : Aside (zl1 p = x) := q
      clear q
      generalize hc : zr1 x = c at rxc
      have ec : zr x = c := by rw [← hc]; exact E.out.2.symm
      rw [ec] at rx rx'
      obtain ⟨cb0, cb1⟩ := rx
      have cu := A.out.ru.cell (i := c.toNat) (by omega)
      have fu3 := A.out.ru.frozen c.toNat
      have C : Aside (zr1 x = c) := hc
      clear hc ec
      by_cases c0 : c = 0
      · subst c0
        clear cu fu3 rx'
        go_wp2
        go_region
        go_wp2
        go_end0
        exact ⟨rfl, zl1, zr1, _, _, _, S.out, .inl ⟨Q.out, by rw [C.out], rfl, by rw [C.out, upC, if_pos rfl]⟩, ((((A.out.setU D.out x g).setL D.out p 0).setR D.out x p).setU D.out p x).drew⟩
      · have c0' : (c != 0) = true := by simpa using c0
        obtain ⟨cx, cp⟩ := rx' c0
        go_wp2
        go_region
        go_wp2
        go_end0
        exact ⟨rfl, zl1, zr1, _, _, _, S.out, .inl ⟨Q.out, by rw [C.out], rfl, by rw [C.out, upC, if_neg c0]⟩, (((((A.out.setU D.out x g).setL D.out p c).setU D.out c.toNat p).setR D.out x p).setU D.out p x).drew⟩
    · generalize hz : zl1 p = z at lp q
      have q' : (z == (x : Int)) = false := by simpa using q
      have Q : Aside (zl1 p ≠ x) := by rw [hz]; exact q
      clear q hz
      generalize hc : zl1 x = c at lxc
      have ec : zl x = c := by rw [← hc]; exact E.out.1.symm
      rw [ec] at lx lx'
      obtain ⟨cb0, cb1⟩ := lx
      have cu := A.out.ru.cell (i := c.toNat) (by omega)
      have fu3 := A.out.ru.frozen c.toNat
      have C : Aside (zl1 x = c) := hc
      clear hc ec
      by_cases c0 : c = 0
      · subst c0
        clear cu fu3 lx'
        go_wp2
        go_region
        go_wp2
        go_end0
        exact ⟨rfl, zl1, zr1, _, _, _, S.out, .inr ⟨Q.out, by rw [C.out], rfl, by rw [C.out, upC, if_pos rfl]⟩, ((((A.out.setU D.out x g).setR D.out p 0).setL D.out x p).setU D.out p x).drew⟩
      · have c0' : (c != 0) = true := by simpa using c0
        obtain ⟨cx, cp⟩ := lx' c0
        go_wp2
        go_region
        go_wp2
        go_end0
        exact ⟨rfl, zl1, zr1, _, _, _, S.out, .inr ⟨Q.out, by rw [C.out], rfl, by rw [C.out, upC, if_neg c0]⟩, (((((A.out.setU D.out x g).setR D.out p c).setU D.out c.toNat p).setL D.out x p).setU D.out p x).drew⟩
end Go.Proofs.Qxb6602963a
