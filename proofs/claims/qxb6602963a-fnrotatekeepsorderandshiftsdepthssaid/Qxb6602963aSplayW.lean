import Derived.Test.Qxb6602963aSplay
namespace Go.Proofs.Qxb6602963a
open Go.RowKit
set_option linter.unusedVariables false

structure SW (w wr : World) (L : Nat) (F P D Q : Nat → Int) (sn sd : Nat → Nat) : Prop where
  bel : Below w.heap.size w wr
  size : w.heap.size + 5 < wr.heap.size
  rf : wr.rowIs w.heap.size 21 L (fun j => .int .i32 (F j))
  rp : wr.rowIs (w.heap.size + 1) 21 L (fun j => .int .i32 (P j))
  rd : wr.rowIs (w.heap.size + 1 + 1) 21 L (fun j => .int .i32 (D j))
  rq : wr.rowIs (w.heap.size + 1 + 1 + 1) 21 L (fun j => .int .i32 (Q j))
  rn : wr.rowIs (w.heap.size + 4) 21 L (fun j => .int .i32 (sn j))
  rs : wr.rowIs (w.heap.size + 4 + 1) 21 L (fun j => .int .i32 (sd j))

theorem SW.set_rf {w wr : World} {L : Nat} {F P D Q : Nat → Int} {sn sd : Nat → Nat} (h : SW w wr L F P D Q sn sd) (i : Nat) (v : Int) : SW w (wr.setCell ⟨w.heap.size, i, none⟩ (.int .i32 v)) L (upd F i v) P D Q sn sd :=
  ⟨h.bel.setCell (by simp <;> omega) _, by simpa using h.size, row_upd (c := fun n : Int => .int .i32 n) h.rf v, h.rp.setOther (by simp <;> omega) _, h.rd.setOther (by simp <;> omega) _, h.rq.setOther (by simp <;> omega) _, h.rn.setOther (by simp <;> omega) _, h.rs.setOther (by simp <;> omega) _⟩

theorem SW.set_rp {w wr : World} {L : Nat} {F P D Q : Nat → Int} {sn sd : Nat → Nat} (h : SW w wr L F P D Q sn sd) (i : Nat) (v : Int) : SW w (wr.setCell ⟨(w.heap.size + 1), i, none⟩ (.int .i32 v)) L F (upd P i v) D Q sn sd :=
  ⟨h.bel.setCell (by simp <;> omega) _, by simpa using h.size, h.rf.setOther (by simp <;> omega) _, row_upd (c := fun n : Int => .int .i32 n) h.rp v, h.rd.setOther (by simp <;> omega) _, h.rq.setOther (by simp <;> omega) _, h.rn.setOther (by simp <;> omega) _, h.rs.setOther (by simp <;> omega) _⟩

theorem SW.set_rd {w wr : World} {L : Nat} {F P D Q : Nat → Int} {sn sd : Nat → Nat} (h : SW w wr L F P D Q sn sd) (i : Nat) (v : Int) : SW w (wr.setCell ⟨(w.heap.size + 1 + 1), i, none⟩ (.int .i32 v)) L F P (upd D i v) Q sn sd :=
  ⟨h.bel.setCell (by simp <;> omega) _, by simpa using h.size, h.rf.setOther (by simp <;> omega) _, h.rp.setOther (by simp <;> omega) _, row_upd (c := fun n : Int => .int .i32 n) h.rd v, h.rq.setOther (by simp <;> omega) _, h.rn.setOther (by simp <;> omega) _, h.rs.setOther (by simp <;> omega) _⟩

theorem SW.set_rq {w wr : World} {L : Nat} {F P D Q : Nat → Int} {sn sd : Nat → Nat} (h : SW w wr L F P D Q sn sd) (i : Nat) (v : Int) : SW w (wr.setCell ⟨(w.heap.size + 1 + 1 + 1), i, none⟩ (.int .i32 v)) L F P D (upd Q i v) sn sd :=
  ⟨h.bel.setCell (by simp <;> omega) _, by simpa using h.size, h.rf.setOther (by simp <;> omega) _, h.rp.setOther (by simp <;> omega) _, h.rd.setOther (by simp <;> omega) _, row_upd (c := fun n : Int => .int .i32 n) h.rq v, h.rn.setOther (by simp <;> omega) _, h.rs.setOther (by simp <;> omega) _⟩

theorem SW.set_rn {w wr : World} {L : Nat} {F P D Q : Nat → Int} {sn sd : Nat → Nat} (h : SW w wr L F P D Q sn sd) (i : Nat) (v : Nat) : SW w (wr.setCell ⟨(w.heap.size + 4), i, none⟩ (.int .i32 (v : Int))) L F P D Q (upd sn i v) sd :=
  ⟨h.bel.setCell (by simp <;> omega) _, by simpa using h.size, h.rf.setOther (by simp <;> omega) _, h.rp.setOther (by simp <;> omega) _, h.rd.setOther (by simp <;> omega) _, h.rq.setOther (by simp <;> omega) _, row_upd (c := fun n : Nat => .int .i32 (n : Int)) h.rn v, h.rs.setOther (by simp <;> omega) _⟩

theorem SW.set_rs {w wr : World} {L : Nat} {F P D Q : Nat → Int} {sn sd : Nat → Nat} (h : SW w wr L F P D Q sn sd) (i : Nat) (v : Nat) : SW w (wr.setCell ⟨(w.heap.size + 4 + 1), i, none⟩ (.int .i32 (v : Int))) L F P D Q sn (upd sd i v) :=
  ⟨h.bel.setCell (by simp <;> omega) _, by simpa using h.size, h.rf.setOther (by simp <;> omega) _, h.rp.setOther (by simp <;> omega) _, h.rd.setOther (by simp <;> omega) _, h.rq.setOther (by simp <;> omega) _, h.rn.setOther (by simp <;> omega) _, row_upd (c := fun n : Nat => .int .i32 (n : Int)) h.rs v⟩

/-- the four rows of numbers, k of them at -1 -/
structure S0 (w wr : World) (L k : Nat) : Prop where
  bel : Below w.heap.size w wr
  size : wr.heap.size = w.heap.size + 4
  rf : wr.rowIs w.heap.size 21 L (fun j => if j < k then .int .i32 (-1) else .int .i32 0)
  rp : wr.rowIs (w.heap.size + 1) 21 L (fun j => if j < k then .int .i32 (-1) else .int .i32 0)
  rd : wr.rowIs (w.heap.size + 1 + 1) 21 L (fun j => if j < k then .int .i32 (-1) else .int .i32 0)
  rq : wr.rowIs (w.heap.size + 1 + 1 + 1) 21 L (fun j => if j < k then .int .i32 (-1) else .int .i32 0)

theorem s0_start (w : World) (L : Nat) : S0 w ((((w.alloc (.cells (madeCells #[.int .i32 0] L) 21)).alloc (.cells (madeCells #[.int .i32 0] L) 21)).alloc (.cells (madeCells #[.int .i32 0] L) 21)).alloc (.cells (madeCells #[.int .i32 0] L) 21)) L 0 := by
  refine ⟨((((Below.refl _ _).alloc (Nat.le_refl _) _).alloc (by simp) _).alloc (by simp <;> omega) _).alloc (by simp <;> omega) _, by simp, ?_, ?_, ?_, ?_⟩
  · exact (((((World.rowIs_made w _ L 21).alloc _).alloc _).alloc _)).congr fun j _ => by simp
  · have h := World.rowIs_made (w.alloc (.cells (madeCells #[.int .i32 0] L) 21)) (.int .i32 0) L 21
    simp only [World.size_alloc] at h
    exact ((h.alloc _).alloc _).congr fun j _ => by simp
  · have h := World.rowIs_made ((w.alloc (.cells (madeCells #[.int .i32 0] L) 21)).alloc (.cells (madeCells #[.int .i32 0] L) 21)) (.int .i32 0) L 21
    simp only [World.size_alloc] at h
    exact (h.alloc _).congr fun j _ => by simp
  · have h := World.rowIs_made (((w.alloc (.cells (madeCells #[.int .i32 0] L) 21)).alloc (.cells (madeCells #[.int .i32 0] L) 21)).alloc (.cells (madeCells #[.int .i32 0] L) 21)) (.int .i32 0) L 21
    simp only [World.size_alloc] at h
    exact h.congr fun j _ => by simp

theorem s0_step {w wr : World} {L k : Nat} (h : S0 w wr L k) : S0 w ((((wr.setCell ⟨w.heap.size, k, none⟩ (.int .i32 (-1))).setCell ⟨w.heap.size + 1, k, none⟩ (.int .i32 (-1))).setCell ⟨w.heap.size + 1 + 1, k, none⟩ (.int .i32 (-1))).setCell ⟨w.heap.size + 1 + 1 + 1, k, none⟩ (.int .i32 (-1))) L (k + 1) := by
  refine ⟨?_, by simpa using h.size, ?_, ?_, ?_, ?_⟩
  · iterate 4 refine Below.setCell ?_ (by simp <;> omega) _
    exact h.bel
  · iterate 3 refine World.rowIs.setOther ?_ (by simp <;> omega) _
    exact row_step (f := fun _ => .int .i32 (-1)) h.rf
  · iterate 2 refine World.rowIs.setOther ?_ (by simp <;> omega) _
    exact row_step (f := fun _ => .int .i32 (-1)) (h.rp.setOther (by simp <;> omega) _)
  · refine World.rowIs.setOther ?_ (by simp <;> omega) _
    exact row_step (f := fun _ => .int .i32 (-1)) ((h.rd.setOther (by simp <;> omega) _).setOther (by simp <;> omega) _)
  · exact row_step (f := fun _ => .int .i32 (-1)) (((h.rq.setOther (by simp <;> omega) _).setOther (by simp <;> omega) _).setOther (by simp <;> omega) _)

theorem sw_start {w wr : World} {L : Nat} (h : S0 w wr L L) : SW w ((wr.alloc (.cells (madeCells #[.int .i32 0] L) 21)).alloc (.cells (madeCells #[.int .i32 0] L) 21)) L (fun _ => -1) (fun _ => -1) (fun _ => -1) (fun _ => -1) (fun _ => 0) (fun _ => 0) := by
  have hs := h.size
  refine ⟨(h.bel.alloc (by omega) _).alloc (by simp; omega) _, by simp; omega, ?_, ?_, ?_, ?_, ?_, ?_⟩
  · exact ((h.rf.congr fun j hj => by rw [if_pos hj]).alloc _).alloc _
  · exact ((h.rp.congr fun j hj => by rw [if_pos hj]).alloc _).alloc _
  · exact ((h.rd.congr fun j hj => by rw [if_pos hj]).alloc _).alloc _
  · exact ((h.rq.congr fun j hj => by rw [if_pos hj]).alloc _).alloc _
  · have h1 := World.rowIs_made wr (.int .i32 0) L 21
    rw [hs] at h1
    exact h1.alloc _
  · have h1 := World.rowIs_made (wr.alloc (.cells (madeCells #[.int .i32 0] L) 21)) (.int .i32 0) L 21
    rw [World.size_alloc, hs] at h1
    exact h1

def SpPost (w : World) (L : Nat) (l r u : Nat → Nat) (T : Nat → Nat → List (Nat × Nat)) (zu : Nat → Int) (e : Ending) (w' : World) : Prop :=
  ∃ b0 b1 b2 b3 F P D Q, e = .returned (.tuple #[.slice (some ⟨b0, 0, none⟩) L L, .slice (some ⟨b1, 0, none⟩) L L, .slice (some ⟨b2, 0, none⟩) L L, .slice (some ⟨b3, 0, none⟩) L L]) ∧
    w'.rowIs b0 21 L (fun j => .int .i32 (F j)) ∧ w'.rowIs b1 21 L (fun j => .int .i32 (P j)) ∧ w'.rowIs b2 21 L (fun j => .int .i32 (D j)) ∧ w'.rowIs b3 21 L (fun j => .int .i32 (Q j)) ∧
    Done l r u L T zu F P D Q L ∧ Below w.heap.size w w'

set_option maxHeartbeats 4000000 in
set_option maxRecDepth 100000 in
theorem splay13 (p0 p1 p2 L : Nat) (zl zr zu : Nat → Int) (T : Nat → Nat → List (Nat × Nat)) (w : World) (hL : L ≤ 65536) (hL1 : 1 ≤ L) (hr : Rng L zl zr zu L) (hk : OK (nat zl) (nat zr) (nat zu) L) (ht : Trav (nat zl) (nat zr) L T)
    (g0 : w.rowIs p0 21 L (fun i => .int .i32 (zl i))) (g1 : w.rowIs p1 21 L (fun i => .int .i32 (zr i))) (g2 : w.rowIs p2 21 L (fun i => .int .i32 (zu i))) :
    Calls Try.prog 13 #[.slice (some ⟨p0, 0, none⟩) L L, .slice (some ⟨p1, 0, none⟩) L L, .slice (some ⟨p2, 0, none⟩) L L] w fun e w' => SpPost w L (nat zl) (nat zr) (nat zu) T zu e w' := by
  have mk22 := run_make_row' (P := Try.prog) 22 21 (.int .i32 0) 4 Try.underlying22 Try.info21 rfl .i64 .i64 L (by omega) (by omega)
  have GG : Aside (w.rowIs p0 21 L (fun i => .int .i32 (zl i)) ∧ w.rowIs p1 21 L (fun i => .int .i32 (zr i)) ∧ w.rowIs p2 21 L (fun i => .int .i32 (zu i))) := ⟨g0, g1, g2⟩
  have l0 := g0.lt
  have l1 := g1.lt
  have l2 := g2.lt
  have HR : Aside (Rng L zl zr zu L) := hr
  clear g0 g1 g2 hr
  go_enter Try.func13, Try.ntmps13
  go_wp2
  have MK : Aside (∀ w, (Instr.makeSlice 22 (.int .i64 (L : Int)) (.int .i64 (L : Int))).run Try.prog w = .ok (.slice (some ⟨w.heap.size, 0, none⟩) L L) (w.alloc (.cells (madeCells #[.int .i32 0] L) 21))) := mk22
  clear mk22
  go_loopg [15] L (fun g i wr => ∃ k : Nat, k ≤ L ∧ g = L - k ∧ i = .int .i64 k ∧ S0 w wr L k)
  case atStart => exact ⟨0, Nat.zero_le _, rfl, rfl, s0_start w L⟩
  case round =>
    obtain ⟨k, hkL, rfl, rfl, hS⟩ := hrel
    by_cases hlt : k < L
    · have hkz : (k : Int) < (L : Int) := by omega
      have c0 := hS.rf.cell hlt
      have c1 := hS.rp.cell hlt
      have c2 := hS.rd.cell hlt
      have c3 := hS.rq.cell hlt
      have f0 := hS.rf.frozen k
      have f1 := hS.rp.frozen k
      have f2 := hS.rd.frozen k
      have f3 := hS.rq.frozen k
      simp only [Nat.lt_irrefl, if_false] at c0 c1 c2 c3
      have A : Aside (S0 w wr L k) := hS
      clear hS
      go_wp2
      go_roundg (L - (k + 1))
      case rel => go_light; exact ⟨k + 1, by omega, rfl, by go_num, s0_step A.out⟩
      case measure => go_light; omega
    · obtain rfl : k = L := by omega
      have hsz := hS.size
      have A : Aside (S0 w wr k k) := hS
      clear hS
      have mk22 := MK.out
      go_wp2
      clear mk22
      have hW0 := sw_start A.out
      clear A
      have D0 : Done (nat zl) (nat zr) (nat zu) k T zu (fun _ => -1) (fun _ => -1) (fun _ => -1) (fun _ => -1) 1 := fun a ha h1 => absurd ha.1 (by omega)
      have I0 : Aside (SW w _ k (fun _ => -1) (fun _ => -1) (fun _ => -1) (fun _ => -1) (fun _ => 0) (fun _ => 0) ∧ Done (nat zl) (nat zr) (nat zu) k T zu (fun _ => -1) (fun _ => -1) (fun _ => -1) (fun _ => -1) 1) := ⟨hW0, D0⟩
      clear hW0 D0
      go_loopg [18] (k - 1) (fun g i wx => ∃ (h : Nat) (F P D Q : Nat → Int) (sn sd : Nat → Nat), 1 ≤ h ∧ h ≤ k ∧ g = k - h ∧ i = .int .i64 h ∧ SW w wx k F P D Q sn sd ∧ Done (nat zl) (nat zr) (nat zu) k T zu F P D Q h)
      case atStart => exact ⟨1, _, _, _, _, _, _, Nat.le_refl _, hL1, rfl, rfl, I0.out.1, I0.out.2⟩
      case round =>
        obtain ⟨h, F, P, D, Q, sn, sd, hh1, hhL, rfl, rfl, hW, hD⟩ := hrel
        obtain ⟨wo, rfl⟩ : ∃ wo : World, wo = wr := ⟨_, rfl⟩
        clear I0
        by_cases hlt : h < k
        · have hhz : (h : Int) < (k : Int) := by omega
          have hv : Vx k h := ⟨by omega, hlt⟩
          have hru := (HR.out h hv.1 hlt).2.2
          have R0 := row_below GG.out.1 hW.bel l0
          have R1 := row_below GG.out.2.1 hW.bel l1
          have R2 := row_below GG.out.2.2 hW.bel l2
          have H10 := heads10 p0 0 p1 0 p2 0 k k k k h zl zr zu wo hL hlt (fun i hi => by simpa using R0.cell hi) (fun i hi => by simpa using R1.cell hi) (fun i hi => by simpa using R2.cell hi) hru.1 hru.2
          have hhB := headB_iff HR.out hv
          have W0 : Aside (SW w wo k F P D Q sn sd ∧ Done (nat zl) (nat zr) (nat zu) k T zu F P D Q h) := ⟨hW, hD⟩
          clear hW hD R0 R1 R2 hru
          have hcv : IntKind.i32.wrap (h : Int) = (h : Int) := by rw [IntKind.wrap_i32]; omega
          cases hb : headB zl zr zu h with
          | false =>
            rw [hb] at H10 hhB
            have HB : Aside (Kid (nat zl) (nat zr) (nat zu) h) := by
              by_cases hkk : Kid (nat zl) (nat zr) (nat zu) h
              · exact hkk
              · exact absurd (hhB.2 hkk) (by simp)
            clear hb hhB
            go_wp2_with (go_at_call 10; refine H10.mono ?_; rintro e w' ⟨rfl, rfl⟩)
            go_roundg (k - (h + 1))
            case rel =>
              go_light
              exact ⟨h + 1, F, P, D, Q, sn, sd, by omega, by omega, rfl, by go_num, W0.out.1, done_next W0.out.2 (fun hn => absurd HB.out hn)⟩
            case measure => go_light; omega
          | true =>
            rw [hb] at H10 hhB
            have HB : Aside (¬ Kid (nat zl) (nat zr) (nat zu) h) := hhB.1 rfl
            clear hb hhB
            go_wp2_with (go_at_call 10; refine H10.mono ?_; rintro e w' ⟨rfl, rfl⟩)
            clear H10
            have hvA : Aside (Vx k h) := hv
            clear hv hcv
            go_loopg [19, 20, 21, 22, 23] (T 0 h).length (fun g v19 v20 v21 v22 v23 wx => ∃ (n c d top : Nat) (ld : Int) (F P D Q : Nat → Int) (sn sd : Nat → Nat), g = (T 0 h).length - n ∧ v19 = .int .i64 top ∧ v20 = .int .i32 n ∧ (v21 = .int .i32 ld ∧ (n = 0 → ld = -1) ∧ (0 < n → ld = lead (T 0 h))) ∧ v22 = .int .i32 c ∧ v23 = .int .i32 d ∧
              SW w wx k F P D Q sn sd ∧ At (nat zl) (nat zr) (nat zu) k T h n c d top sn sd ∧ Wrote (T 0 h) (zu h) F P D Q n ∧ Done (nat zl) (nat zr) (nat zu) k T zu F P D Q h)
            case atStart => exact ⟨0, h, 0, 0, -1, F, P, D, Q, sn, sd, rfl, rfl, rfl, ⟨rfl, fun _ => rfl, fun h => absurd h (by omega)⟩, rfl, rfl, W0.out.1, at_start h hvA.out sn sd, fun i v e hi => absurd hi (by omega), W0.out.2⟩
            case round =>
              clear W0
              clear F P D Q sn sd
              obtain ⟨n, c, d, top, ld, F, P, D, Q, sn, sd, rfl, rfl, rfl, ⟨rfl, hld⟩, rfl, rfl, hW, hA, hWr, hD⟩ := hrel
              have LD : Aside ((n = 0 → ld = -1) ∧ (0 < n → ld = lead (T 0 h))) := hld
              clear hld
              obtain ⟨wm, rfl⟩ : ∃ wm : World, wm = wr := ⟨_, rfl⟩
              have cL := hA.cL
              have W1 : Aside (SW w wm k F P D Q sn sd ∧ At (nat zl) (nat zr) (nat zu) k T h n c d top sn sd ∧ Wrote (T 0 h) (zu h) F P D Q n ∧ Done (nat zl) (nat zr) (nat zu) k T zu F P D Q h) := ⟨hW, hA, hWr, hD⟩
              clear hW hA hWr hD
              by_cases hex : c = 0 ∧ top = 0
              · obtain ⟨rfl, rfl⟩ := hex
                go_wp2
                go_roundg (k - (h + 1))
                case rel =>
                  go_light
                  obtain ⟨hW, hA, hWr, hD⟩ := W1.out
                  have hfull := hA.full ht
                  rw [hfull] at hWr
                  exact ⟨h + 1, F, P, D, Q, sn, sd, by omega, by omega, rfl, by go_num, hW, done_next hD (fun _ => hWr)⟩
                case measure => go_light; omega
              · have hne : Aside (c ≠ 0 ∨ 0 < top) := by
                  by_cases h1 : c = 0
                  · right; omega
                  · left; exact h1
                go_upto_region 24 with (fail)
                go_cut [76] (fun v wc => v = .bool true ∧ wc = wm)
                case first =>
                  by_cases h1 : c = 0
                  · have h1' : ((c : Int) != 0) = false := by simp [h1]
                    have h2z : (0 : Int) < (top : Int) := by omega
                    have H1 : Aside (c = 0) := h1
                    clear h1 hex
                    go_wp2
                    go_meet
                    case rel => exact ⟨by simp; omega, rfl⟩
                  · have h1' : ((c : Int) != 0) = true := by simp; omega
                    clear hex
                    go_wp2
                    go_meet
                    case rel => exact ⟨rfl, rfl⟩
                case rest =>
                  obtain ⟨rfl, hw⟩ := hcut
                  subst hw
                  clear hex
                  go_wp2
                  obtain ⟨hW, hA, hWr, hD⟩ := W1.out
                  have W2 : Aside (Wrote (T 0 h) (zu h) F P D Q n ∧ Done (nat zl) (nat zr) (nat zu) k T zu F P D Q h) := ⟨hWr, hD⟩
                  have W3 : Aside (SW w wc k F P D Q sn sd ∧ At (nat zl) (nat zr) (nat zu) k T h n c d top sn sd) := ⟨hW, hA⟩
                  clear hW hA hWr hD W1
                  go_loopg [19, 22, 23] (T d c).length (fun g v19 v22 v23 wx => ∃ (top c d : Nat) (sn sd : Nat → Nat), g = (T d c).length ∧ v19 = .int .i64 top ∧ v22 = .int .i32 c ∧ v23 = .int .i32 d ∧ SW w wx k F P D Q sn sd ∧ At (nat zl) (nat zr) (nat zu) k T h n c d top sn sd ∧ (c ≠ 0 ∨ 0 < top))
                  case atStart => exact ⟨top, c, d, sn, sd, rfl, rfl, rfl, rfl, W3.out.1, W3.out.2, hne.out⟩
                  case round =>
                    clear W3 hne cL
                    clear top c d sn sd
                    obtain ⟨top, c, d, sn, sd, rfl, rfl, rfl, rfl, hW, hA, hne⟩ := hrel
                    have cL := hA.cL
                    by_cases hc : c = 0
                    · have hc' : ((c : Int) != 0) = false := by simp [hc]
                      match top, hA, hne with
                      | 0, hA, hne => exact absurd hc (by rcases hne with h1 | h1 <;> omega)
                      | t + 1, hA, hne =>
                        have hA0 : At (nat zl) (nat zr) (nat zu) k T h n 0 d (t + 1) sn sd := by rw [hc] at hA; exact hA
                        have POP : Aside ((T 0 h)[n]? = some (sn t, sd t) ∧ At (nat zl) (nat zr) (nat zu) k T h (n + 1) (nat zr (sn t)) (sd t + 1) t sn sd ∧ n + 1 < k) := hA0.pop hk ht hvA.out
                        clear hA0
                        have hvx := (hA.vx t (by omega)).1
                        have hsd := (hA.vx t (by omega)).2
                        have hv1 := hvx.1
                        have hv2 := hvx.2
                        have hnk := POP.out.2.2
                        have hWp : Aside (SW w wr k F P D Q sn sd) := hW
                        have tL : t < k := by
                          have := congrArg List.length hA.rest
                          have h2 := stk_len (T := T) (r := nat zr) (sn := sn) (sd := sd) (k := t + 1)
                          have h3 := vlen hk ht hlt
                          simp only [List.length_drop, List.length_append] at this
                          omega
                        have c0 := hW.rn.cell tL
                        have c1 := hW.rs.cell tL
                        have d0 := hW.rf.cell hv2
                        have d1 := hW.rp.cell hv2
                        have d2 := hW.rd.cell hv2
                        have d3 := hW.rq.cell hv2
                        have f0 := hW.rf.frozen (sn t)
                        have f1 := hW.rp.frozen (sn t)
                        have f2 := hW.rd.frozen (sn t)
                        have f3 := hW.rq.frozen (sn t)
                        have e0 := (row_below GG.out.2.2 hW.bel l2).cell hlt
                        have e1 := (row_below GG.out.2.1 hW.bel l1).cell hv2
                        have hrr := (HR.out (sn t) hv1 hv2).2.1
                        obtain ⟨rn, hrn⟩ := Int.eq_ofNat_of_zero_le hrr.1
                        rw [hrn] at e1
                        have ER : Aside (nat zr (sn t) = rn) := by simp only [Aside, nat]; rw [hrn]; simp
                        clear hA hW hvx hrr hrn hc
                        have svz : ((sn t : Nat) : Int) < (k : Int) := by omega
                        have tz : (t : Int) < (k : Int) := by omega
                        by_cases hn0 : n = 0
                        · have hl := LD.out.1 hn0
                          subst hl
                          have LE : Aside (((sn t : Nat) : Int) = lead (T 0 h)) := by
                            have := POP.out.1
                            rw [hn0] at this
                            rw [lead_get this]
                            exact rfl
                          clear LD hn0
                          go_wp2
                          go_roundg ((T 0 h).length - (n + 1))
                          case rel =>
                            go_light
                            obtain ⟨hWr, hD⟩ := W2.out
                            exact ⟨n + 1, nat zr (sn t), sd t + 1, t, (sn t : Int), _, _, _, _, sn, sd, rfl, by go_num, by go_num, ⟨rfl, fun h => absurd h (by omega), fun _ => LE.out⟩, by rw [ER.out], by go_num, (((hWp.out.set_rf (sn t) (sn t : Int)).set_rp (sn t) n).set_rd (sn t) (sd t)).set_rq (sn t) (zu h), POP.out.2.1,
                              by have := wrote_step hk ht hvA.out hWr POP.out.1; rw [← LE.out] at this; exact this, done_step hk ht hvA.out HB.out hD POP.out.1 _ _ _ _⟩
                          case measure => go_light; have := POP.out.2.1.kl; omega
                        · have LE : Aside (ld = lead (T 0 h)) := LD.out.2 (by omega)
                          have hl0 : 0 ≤ ld := by rw [LE.out]; omega
                          clear LD
                          go_wp2
                          go_roundg ((T 0 h).length - (n + 1))
                          case rel =>
                            go_light
                            obtain ⟨hWr, hD⟩ := W2.out
                            exact ⟨n + 1, nat zr (sn t), sd t + 1, t, ld, _, _, _, _, sn, sd, rfl, by go_num, by go_num, ⟨rfl, fun h => absurd h (by omega), fun _ => LE.out⟩, by rw [ER.out], by go_num, (((hWp.out.set_rf (sn t) ld).set_rp (sn t) n).set_rd (sn t) (sd t)).set_rq (sn t) (zu h), POP.out.2.1,
                              by have := wrote_step hk ht hvA.out hWr POP.out.1; rw [← LE.out] at this; exact this, done_step hk ht hvA.out HB.out hD POP.out.1 _ _ _ _⟩
                          case measure => go_light; have := POP.out.2.1.kl; omega
                    · have hc' : ((c : Int) != 0) = true := by simp; omega
                      obtain ⟨t1, t2⟩ := hA.top_lt hk ht hvA.out hc
                      have PU : Aside (At (nat zl) (nat zr) (nat zu) k T h n (nat zl c) (d + 1) (top + 1) (upd sn top c) (upd sd top d) ∧ (T (d + 1) (nat zl c)).length < (T d c).length) := hA.push hk ht hvA.out hc
                      have c0 := hW.rn.cell (i := top) (by omega)
                      have c1 := hW.rs.cell (i := top) (by omega)
                      have f0 := hW.rn.frozen top
                      have f1 := hW.rs.frozen top
                      have e0 := (row_below GG.out.1 hW.bel l0).cell cL
                      have hrl := (HR.out c (by omega) cL).1
                      obtain ⟨ln, hln⟩ := Int.eq_ofNat_of_zero_le hrl.1
                      rw [hln] at e0
                      have EL : Aside (nat zl c = ln) := by simp only [Aside, nat]; rw [hln]; simp
                      have hWp : Aside (SW w wr k F P D Q sn sd) := hW
                      have cz : (c : Int) < (k : Int) := by omega
                      have tz : (top : Int) < (k : Int) := by omega
                      clear hA hW hrl hln hne
                      go_wp2
                      go_roundg (T (d + 1) (nat zl c)).length
                      case rel =>
                        go_light
                        exact ⟨top + 1, nat zl c, d + 1, upd sn top c, upd sd top d, rfl, by go_num, by rw [EL.out], by go_num, (hWp.out.set_rn top c).set_rs top d, PU.out.1, .inr (by omega)⟩
                      case measure => go_light; exact PU.out.2
        · obtain rfl : h = k := by omega
          have A : Aside (SW w wo h F P D Q sn sd ∧ Done (nat zl) (nat zr) (nat zu) h T zu F P D Q h) := ⟨hW, hD⟩
          clear hW hD
          go_wp2
          refine bodyPost_ret (v := .tuple #[.slice (some ⟨w.heap.size, 0, none⟩) h h, .slice (some ⟨w.heap.size + 1, 0, none⟩) h h, .slice (some ⟨w.heap.size + 1 + 1, 0, none⟩) h h, .slice (some ⟨w.heap.size + 1 + 1 + 1, 0, none⟩) h h]) (by simp [results, Try.results13, go_sem]) rfl ?_
          obtain ⟨hW, hD⟩ := A.out
          exact ⟨_, _, _, _, F, P, D, Q, rfl, hW.rf, hW.rp, hW.rd, hW.rq, hD, hW.bel⟩
end Go.Proofs.Qxb6602963a
