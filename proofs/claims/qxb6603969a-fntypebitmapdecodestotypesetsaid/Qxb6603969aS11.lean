import Derived.Test.Qxb6603969aS10
namespace Go.Proofs.Qxb6603969a
open Go.RowKit Go.Sort
set_option linter.unusedVariables false

theorem Only.new {b rb : Nat} {w wr w1 : World} (h : Only b w wr) (k : Only rb wr w1) (hrb : w.heap.size ≤ rb) : Only b w w1 :=
  ⟨k.os.trans h.os, k.tape.trans h.tape, k.output.trans h.output, Nat.le_trans h.size k.size, fun i hi hb => (k.block i (Nat.lt_of_lt_of_le hi h.size) (by omega)).trans (h.block i hi hb)⟩

theorem Rnd.swap {w : World} {rb R b i j : Nat} (h : Rnd w rb R) (hb : b ≠ rb) (u v : Value) : Rnd ((w.setCell ⟨b, i, none⟩ u).setCell ⟨b, j, none⟩ v) rb R :=
  ⟨by rw [World.cell?_setCell_other _ _ _ _ (fun e => hb (congrArg Addr.block e)), World.cell?_setCell_other _ _ _ _ (fun e => hb (congrArg Addr.block e))]; exact h.cell, by simp [h.free], h.lt⟩
theorem Rnd.drew {w : World} {rb R : Nat} (h : Rnd w rb R) : Rnd w.drew rb R := ⟨h.cell, h.free, h.lt⟩
theorem Rnd.drewN {w : World} {rb R : Nat} (h : Rnd w rb R) (n : Nat) : Rnd (w.drewN n) rb R := ⟨h.cell, h.free, h.lt⟩

def BPost (b o x y : Nat) (d : Array Int) (w : World) (e : Ending) (w' : World) : Prop := ∃ d', PermIn x y d d' ∧ e = .returned (.tuple #[]) ∧ SRow w' b o d' ∧ Only b w w'

set_option maxHeartbeats 3200000 in
set_option maxRecDepth 1000000 in
theorem brk41 (b o cap x y n : Nat) (d : Array Int) (w : World) (hn : d.size = n) (hr : SRow w b o d) (hxy : 12 < y - x) (hy : y ≤ d.size) (hsz : d.size ≤ 1048576) :
    Calls Try.prog 41 #[.slice (some ⟨b, o, none⟩) n cap, .int .i64 x, .int .i64 y] w fun e w' => BPost b o x y d w e w' := by
  subst hn
  have hb := hr.lt
  obtain ⟨L, hL⟩ : ∃ L, L = y - x := ⟨_, rfl⟩
  have hL1 : 12 < L := by omega
  have hL2 : x + L ≤ y := by omega
  have hL3 : y ≤ x + L := by omega
  have eL : (y : Int) - (x : Int) = (L : Int) := by omega
  clear hL
  obtain ⟨i0, hi0⟩ : ∃ i0, i0 = x + L / 4 * 2 - 1 := ⟨_, rfl⟩
  have e0 : (x : Int) + (L : Int) / 4 * 2 - 1 = (i0 : Int) := by omega
  have e0' : (x : Int) + (L : Int) / 4 * 2 + 1 = (i0 : Int) + 2 := by omega
  have hi1 : x < i0 ∧ i0 + 3 < y := by omega
  clear hi0
  obtain ⟨M, hM1, hM2, hNP⟩ := pow51 L (by omega) (by omega) w
  have HST : Aside (SRow (w.alloc (Obj.cells #[.int .u64 (L : Int)] 72)) b o d ∧ Only b w (w.alloc (Obj.cells #[.int .u64 (L : Int)] 72)) ∧ Rnd (w.alloc (Obj.cells #[.int .u64 (L : Int)] 72)) w.heap.size L) :=
    ⟨hr.of_block (((Below.refl w.heap.size w).alloc (Nat.le_refl _) _).block b hb), Only.of_below ((Below.refl w.heap.size w).alloc (Nat.le_refl _) _), by simp, by simp, by omega⟩
  clear hr
  have hbz : b ≠ w.heap.size := by omega
  go_enter Try.func41, Try.ntmps41
  go_wp2_with (go_at_call 51; refine (hNP _).mono ?_; rintro e w' ⟨rfl, rfl⟩)
  generalize w.alloc (Obj.cells #[.int .u64 (L : Int)] 72) = w0 at HST ⊢
  go_loopg [9] 3 (fun g vi wr => ∃ (t R : Nat) (dk : Array Int), t ≤ 3 ∧ g = 3 - t ∧ vi = .int .i64 ((i0 : Int) + (t : Int)) ∧ PermIn x y d dk ∧ SRow wr b o dk ∧ Rnd wr w.heap.size R ∧ Only b w wr)
  case atStart => exact ⟨0, L, d, by omega, rfl, by simp, permIn_refl _ _ _, HST.out.1, HST.out.2.2, HST.out.2.1⟩
  case round =>
    obtain ⟨t, R, dk, ht, rfl, rfl, hP, hrk, hR, hO⟩ := hrel
    by_cases ht3 : t < 3
    · have htz : ((i0 : Int) + (t : Int) ≤ (i0 : Int) + 2) := by omega
      have HK : Aside (PermIn x y d dk ∧ SRow wr b o dk ∧ Rnd wr w.heap.size R ∧ Only b w wr) := ⟨hP, hrk, hR, hO⟩
      have hds : dk.size = d.size := hP.1
      clear hP hrk hR hO
      go_wp2_with fail
      refine (next52 w.heap.size R wr HK.out.2.2.1).mono ?_
      rintro e w1 ⟨R1, rfl, hR1, hO1⟩
      have lR' := hR1.lt
      have K1 : Aside (SRow w1 b o dk ∧ Rnd w1 w.heap.size R1 ∧ Only b w w1) := ⟨HK.out.2.1.only hO1 hbz, hR1, HK.out.2.2.2.new hO1 (Nat.le_refl _)⟩
      clear hR1 hO1
      obtain ⟨O, hOO⟩ : ∃ O : Nat, O = R1 &&& (M - 1) := ⟨_, rfl⟩
      have lO : O ≤ M - 1 := by rw [hOO]; exact Nat.and_le_right
      have eAnd : bits .and .u64 (R1 : Int) ((M : Int) - 1) = (O : Int) := by
        rw [show ((M : Int) - 1) = ((M - 1 : Nat) : Int) by omega, bits_and_u64_nat _ _ lR' (by omega), hOO]
      clear hOO
      obtain ⟨G, hc, hf, HG⟩ := K1.out.1.fam
      rw [hds] at hc hf
      obtain ⟨q, hq⟩ : ∃ q, q = i0 + t := ⟨_, rfl⟩
      have eq0 : (i0 : Int) + (t : Int) = (q : Int) := by omega
      have hq1 : x ≤ q ∧ q < y := by omega
      have HQ : Aside (q = i0 + t) := hq
      clear hq
      rw [eq0]
      by_cases hLO : L ≤ O
      · have zLO : decide ((L : Int) ≤ (O : Int)) = true := decide_eq_true (by omega)
        by_cases hEq : q = x + (O - L)
        all_goals
          go_wp2_with fail
          go_region
          all_goals go_wp2
          go_roundg (3 - (t + 1))
          case rel =>
            go_light
            refine ⟨t + 1, R1, swp dk q (x + (O - L)), by omega, rfl, by first | (congr 1; omega) | (simp; omega), permIn_trans _ _ _ _ _ HK.out.1 (swp_permIn dk x y q (x + (O - L)) (by omega) (by omega) (by omega) (by omega) (by omega)), ?_, ?_, ?_⟩
            · (try rw [hEq])
              refine SRow.drew (SRow.swap' K1.out.1 (by omega) (by omega) (HG.out _) (HG.out _))
            · exact (K1.out.2.1.swap hbz _ _).drew
            · exact (K1.out.2.2.swap _ _ _ _).drew
          case measure => go_light; omega
      · have zLO : decide ((L : Int) ≤ (O : Int)) = false := decide_eq_false (by omega)
        by_cases hEq : q = x + O
        all_goals
          go_wp2_with fail
          go_region
          all_goals go_wp2
          go_roundg (3 - (t + 1))
          case rel =>
            go_light
            refine ⟨t + 1, R1, swp dk q (x + O), by omega, rfl, by first | (congr 1; omega) | (simp; omega), permIn_trans _ _ _ _ _ HK.out.1 (swp_permIn dk x y q (x + O) (by omega) (by omega) (by omega) (by omega) (by omega)), ?_, ?_, ?_⟩
            · (try rw [hEq])
              refine SRow.drew (SRow.swap' K1.out.1 (by omega) (by omega) (HG.out _) (HG.out _))
            · exact (K1.out.2.1.swap hbz _ _).drew
            · exact (K1.out.2.2.swap _ _ _ _).drew
          case measure => go_light; omega
    · obtain rfl : t = 3 := by omega
      go_wp2
      go_end0
      exact ⟨dk, hP, rfl, hrk, hO⟩
end Go.Proofs.Qxb6603969a
