import Derived.Test.Qxb6603969aS7
import Derived.Test.Qxb6603969aS11
import Derived.Sort.AssemblyPlain
import Derived.Deep.Cut
namespace Go.Proofs.Qxb6603969a
open Go.RowKit Go.Sort
set_option linter.unusedVariables false

/-- where the sort's loop stands: [a', b') of dk is left to be sorted -/
structure PI (b o x y : Nat) (d : Array Int) (w : World) (a' b' : Nat) (dk : Array Int) (wr : World) : Prop where
  size : dk.size = d.size
  bel : Go.Sort.Below ltInt a' b' dk
  row : SRow wr b o dk
  only : Only b w wr
  fin : ∀ R, PermIn a' b' dk R → SortedIn ltInt a' b' R → PermIn x y d R ∧ SortedIn ltInt x y R

theorem PI.perm {b o x y : Nat} {d : Array Int} {w : World} {a' b' : Nat} {dk dk' : Array Int} {wr wr' : World} (h : PI b o x y d w a' b' dk wr) (hb : b' ≤ d.size) (hp : PermIn a' b' dk dk') (hr : SRow wr' b o dk') (ho : Only b wr wr') : PI b o x y d w a' b' dk' wr' :=
  ⟨hp.1.trans h.size, h.bel.perm (by rw [h.size]; exact hb) hp, hr, h.only.trans ho, fun R h1 h2 => h.fin R (permIn_trans _ _ _ _ _ hp h1) h2⟩

def DPost (b o x y : Nat) (d : Array Int) (w : World) (e : Ending) (w' : World) : Prop := e = .returned (.tuple #[]) ∧ ∃ d', PermIn x y d d' ∧ SortedIn ltInt x y d' ∧ SRow w' b o d' ∧ Only b w w'

theorem PI.done {b o x y : Nat} {d : Array Int} {w : World} {a' b' : Nat} {dk dk' : Array Int} {wr wr' : World} (h : PI b o x y d w a' b' dk wr) (hp : PermIn a' b' dk dk') (hs : SortedIn ltInt a' b' dk') (hr : SRow wr' b o dk') (ho : Only b wr wr') :
    DPost b o x y d w (.returned (.tuple #[])) wr' :=
  ⟨rfl, dk', (h.fin _ hp hs).1, (h.fin _ hp hs).2, hr, h.only.trans ho⟩

set_option maxHeartbeats 6400000 in
set_option maxRecDepth 1000000 in
theorem pdq37 : ∀ (N b o cap x y lim0 n : Nat) (d : Array Int) (w : World), y - x < N → d.size = n → SRow w b o d → x ≤ y → y ≤ d.size → d.size ≤ 1048576 → lim0 ≤ 100 → Go.Sort.Below ltInt x y d →
    Calls Try.prog 37 #[.slice (some ⟨b, o, none⟩) n cap, .int .i64 x, .int .i64 y, .int .i64 lim0] w fun e w' => DPost b o x y d w e w' := by
  intro N
  induction N with
  | zero => intro _ _ _ _ _ _ _ _ _ h; exact absurd h (Nat.not_lt_zero _)
  | succ N ih =>
    intro b o cap x y lim0 n d w hN hn hr hxy hy hsz hl0 hBel
    subst hn
    have hst : PI b o x y d w x y d w := ⟨rfl, hBel, hr, Only.refl _ _, fun R h1 h2 => ⟨h1, h2⟩⟩
    have ST : Aside (PI b o x y d w x y d w) := hst
    clear hst hr hBel
    go_enter Try.func37, Try.ntmps37
    go_wp2
    go_loopg [1, 2, 3, 8, 9] (y - x) (fun k s1 s2 s3 s8 s9 wr => ∃ (a' b' lim : Nat) (wb wp : Bool) (dk : Array Int), s1 = .int .i64 a' ∧ s2 = .int .i64 b' ∧ s3 = .int .i64 lim ∧ s8 = .bool wb ∧ s9 = .bool wp ∧
      a' ≤ b' ∧ b' ≤ d.size ∧ b' - a' ≤ k ∧ k ≤ y - x ∧ lim ≤ 100 ∧ PI b o x y d w a' b' dk wr)
    case atStart => exact ⟨x, y, lim0, true, true, d, rfl, rfl, rfl, rfl, rfl, hxy, hy, Nat.le_refl _, Nat.le_refl _, hl0, ST.out⟩
    case round =>
      obtain ⟨a', b', lim, wb, wp, dk, rfl, rfl, rfl, rfl, rfl, hab', hb', hk, hkN, hlim, hpi⟩ := hrel
      have I0 : Aside (PI b o x y d w a' b' dk wr) := hpi
      have hds := hpi.size
      clear hpi
      by_cases h12 : b' - a' ≤ 12
      · have h12z : (b' : Int) - (a' : Int) ≤ 12 := by omega
        have hc := ins39 b o cap a' b' dk wr I0.out.row hab' (by omega) (by omega)
        rw [hds] at hc
        go_wp2_with (go_at_call 39; refine hc.mono ?_; rintro e w1 ⟨rfl, hr1, ho1⟩)
        (try simp only [Exit.inBlock, Exit.then]); refine bodyPost_ret (results_none rfl _ _ _) rfl ?_
        have hh := insertionSort_holds swo_ltInt dk a' b' hab' (by omega)
        exact I0.out.done hh.1 hh.2 hr1 ho1
      · have h12z : ¬ ((b' : Int) - (a' : Int) ≤ 12) := by omega
        by_cases hl0 : lim = 0
        · subst hl0
          have hc := heap40 b o cap a' b' dk wr I0.out.row hab' (by omega) (by omega)
          rw [hds] at hc
          go_wp2_with (go_at_call 40; refine hc.mono ?_; rintro e w1 ⟨rfl, hr1, ho1⟩)
          (try simp only [Exit.inBlock, Exit.then]); refine bodyPost_ret (results_none rfl _ _ _) rfl ?_
          have hh := heapSort_holds swo_ltInt dk a' b' hab' (by omega)
          exact I0.out.done hh.1 hh.2 hr1 ho1
        · have hl0z : ¬ ((lim : Int) = 0) := by omega
          go_upto_if 35 with fail
          go_cut [3] from 19 (fun s3 wc => ∃ (lm : Nat) (d1 : Array Int), s3 = .int .i64 lm ∧ lm ≤ 100 ∧ PI b o x y d w a' b' d1 wc)
          case first =>
            cases wb
            · have hc := brk41 b o cap a' b' d.size dk wr hds I0.out.row (by omega) (by omega) (by omega)
              go_wp2_with (go_at_call 41; refine hc.mono ?_; rintro e w1 ⟨d1, hp1, rfl, hr1, ho1⟩)
              go_meet
              case rel => exact ⟨lim - 1, d1, by congr 1; omega, by omega, I0.out.perm hb' hp1 hr1 ho1⟩
            · go_wp2_with fail
              go_meet
              case rel => exact ⟨lim, dk, rfl, hlim, I0.out⟩
          case rest =>
            obtain ⟨lm, d1, rfl, hlm, hpi1⟩ := hcut
            have I1 : Aside (PI b o x y d w a' b' d1 wc) := hpi1
            have hs1 := hpi1.size
            clear hpi1 I0 hds
            have hc42 := piv42 b o cap a' b' d.size d1 wc hs1 I1.out.row (by omega) (by omega) (by omega)
            go_upto_if 50 with (go_at_call 42; refine hc42.mono ?_; rintro e w2 ⟨m, hh, hm1, hm2, hh2, rfl, hB2⟩)
            have I2 : Aside (PI b o x y d w a' b' d1 w2) := I1.out.perm hb' (permIn_refl _ _ _) (I1.out.row.of_block (hB2.block b I1.out.row.lt)) (Only.of_below hB2)
            clear hB2 hc42
            go_cut [11, 12] from 19 (fun s11 s12 wc => ∃ (pv hc : Nat) (d2 : Array Int), s11 = .int .i64 pv ∧ s12 = .int .i64 hc ∧ a' ≤ pv ∧ pv < b' ∧ hc ≤ 2 ∧ PI b o x y d w a' b' d2 wc)
            case first =>
              by_cases hh3 : hh = 2
              · subst hh3
                have hc := rev43 b o cap a' b' d1 w2 I2.out.row hab' (by omega) (by omega)
                rw [hs1] at hc
                go_wp2_with (go_at_call 43; refine hc.mono ?_; rintro e w3 ⟨rfl, hr3, ho3⟩)
                go_meet
                case rel => exact ⟨(b' - 1) - (m - a'), 1, _, by congr 1; omega, rfl, by omega, by omega, by omega, I2.out.perm hb' (reverseRange_holds d1 a' b' hab' (by omega)) hr3 ho3⟩
              · have hhz : ((hh : Int) == 2) = false := by simp; omega
                go_wp2_with fail
                go_meet
                case rel => exact ⟨m, hh, d1, rfl, rfl, hm1, hm2, by omega, I2.out⟩
            case rest =>
              obtain ⟨pv, hc, d2, rfl, rfl, hpv1, hpv2, hhc, hpi2⟩ := hcut
              have I3 : Aside (PI b o x y d w a' b' d2 wc) := hpi2
              have hs2 := hpi2.size
              clear hpi2 I2 I1
              go_upto_region 15 with fail
              go_cut [12, 68] from 19 (fun s12 s68 wx => s12 = .int .i64 hc ∧ ∃ (β : Bool), s68 = .bool β ∧ wx = wc)
              case first =>
                by_cases hc1 : hc = 1
                · subst hc1
                  cases wb <;> cases wp <;>
                    (go_wp2_with fail
                     go_meet
                     exact ⟨rfl, _, rfl, rfl⟩)
                · have hcz : ((hc : Int) == 1) = false := by simp; omega
                  cases wb <;> cases wp <;>
                    (go_wp2_with fail
                     go_meet
                     exact ⟨rfl, _, rfl, rfl⟩)
              case rest =>
                obtain ⟨rfl, β, rfl, rfl⟩ := hcut
                go_upto_if 68 with fail
                go_cut [] from 19 (fun wx => ∃ d3 : Array Int, PI b o x y d w a' b' d3 wx)
                case first =>
                  cases β
                  · go_wp2_with fail
                    go_meet
                    case rel => exact ⟨d2, I3.out⟩
                  · obtain ⟨pr, hpr⟩ : ∃ pr, pr = partialInsertionSort ltInt d2 a' b' := ⟨_, rfl⟩
                    have hP := partialInsertionSort_holds swo_ltInt d2 a' b' (by omega) (by omega) I3.out.bel
                    have hc44 := part44 b o cap a' b' d2 wc I3.out.row (by omega) (by omega) (by omega)
                    rw [hs2, ← hpr] at hc44
                    rw [← hpr] at hP
                    obtain ⟨d3, r3⟩ := pr
                    have HP : Aside (PermIn a' b' d2 d3 ∧ (r3 = true → SortedIn ltInt a' b' d3)) := hP
                    clear hP hpr
                    cases r3
                    · go_wp2_with (go_at_call 44; refine hc44.mono ?_; rintro e w4 ⟨rfl, hr4, ho4⟩)
                      go_meet
                      case rel => exact ⟨d3, I3.out.perm hb' HP.out.1 hr4 ho4⟩
                    · go_wp2_with (go_at_call 44; refine hc44.mono ?_; rintro e w4 ⟨rfl, hr4, ho4⟩)
                      (try simp only [Exit.inBlock, Exit.then]); refine bodyPost_ret (results_none rfl _ _ _) rfl ?_
                      exact I3.out.done HP.out.1 (HP.out.2 trivial) hr4 ho4
                case rest =>
                  obtain ⟨d3, hpi3⟩ := hcut
                  have I4 : Aside (PI b o x y d w a' b' d3 wc) := hpi3
                  have hs3 := hpi3.size
                  obtain ⟨G, hcw, hfw, HG⟩ := hpi3.row.fam
                  rw [hs3] at hcw hfw
                  clear hpi3 I3
                  go_upto_region 17 with fail
                  go_cut [87] from 19 (fun s87 wx => ∃ β : Bool, s87 = .bool β ∧ (β = true → 0 < a' ∧ ltInt (G (a' - 1)) (G pv) = false) ∧ PI b o x y d w a' b' d3 wx)
                  case first =>
                    rcases Nat.eq_zero_or_pos a' with ha0 | ha0
                    · have ha0z : decide ((a' : Int) > 0) = false := decide_eq_false (by omega)
                      go_quiet ((go_at_call 45; exact Calls.quiet_of_same (less45 _ _ _)))
                      go_wp2_with fail
                      go_meet
                      case rel => exact ⟨false, rfl, fun h => by simp at h, I4.out.perm hb' (permIn_refl _ _ _) (I4.out.row.drewN nq) ((Only.refl _ _).drewN nq)⟩
                    · have ha0z : (a' : Int) > 0 := by omega
                      go_quiet ((go_at_call 45; exact Calls.quiet_of_same (less45 _ _ _)))
                      go_wp2_with fail
                      go_meet
                      case rel => exact ⟨_, rfl, fun h => ⟨ha0, by simpa using h⟩, I4.out.perm hb' (permIn_refl _ _ _) (I4.out.row.drewN nq) ((Only.refl _ _).drewN nq)⟩
                  case rest =>
                    obtain ⟨β, rfl, hβ, hpi5⟩ := hcut
                    clear hcw hfw I4
                    have I5 : Aside (PI b o x y d w a' b' d3 wc) := hpi5
                    clear hpi5
                    cases β
                    · obtain ⟨mid, ap, d4, hx⟩ : ∃ mid ap d4, partition ltInt d3 a' b' pv = (mid, ap, d4) := ⟨(partition ltInt d3 a' b' pv).1, (partition ltInt d3 a' b' pv).2.1, (partition ltInt d3 a' b' pv).2.2, rfl⟩
                      obtain ⟨r1, r2, r3, r4, r5, r6, r7⟩ := round_part swo_ltInt (partition_holds ltInt) hpv1 hpv2 (show b' ≤ d3.size by omega) I5.out.bel hx
                      have hc47 := pt47 b o cap a' b' pv d3 wc I5.out.row hpv1 hpv2 (by omega) (by omega)
                      rw [hs3, hx] at hc47
                      have X : Aside ((Go.Sort.Below ltInt a' mid d4 ∧ Go.Sort.Below ltInt (mid + 1) b' d4) ∧ (∀ L, PermIn a' mid d4 L → SortedIn ltInt a' mid L → Go.Sort.Below ltInt (mid + 1) b' L ∧ ∀ R, PermIn (mid + 1) b' L R → SortedIn ltInt (mid + 1) b' R → PermIn a' b' d3 R ∧ SortedIn ltInt a' b' R) ∧
                          (∀ L, PermIn (mid + 1) b' d4 L → SortedIn ltInt (mid + 1) b' L → Go.Sort.Below ltInt a' mid L ∧ ∀ R, PermIn a' mid L R → SortedIn ltInt a' mid R → PermIn a' b' d3 R ∧ SortedIn ltInt a' b' R)) := ⟨⟨r4, r5⟩, r6, r7⟩
                      clear hx r4 r5 r6 r7
                      go_upto_if 113 with (go_at_call 47; refine hc47.mono ?_; rintro e w7 ⟨rfl, hr7, ho7⟩)
                      have J : Aside (SRow w7 b o d4 ∧ Only b w w7) := ⟨hr7, I5.out.only.trans ho7⟩
                      clear hr7 ho7 hc47
                      by_cases h4 : mid - a' < b' - mid
                      · have h4z : (mid : Int) - (a' : Int) < (b' : Int) - (mid : Int) := by omega
                        have hih := ih b o cap a' mid lm d.size d4 w7 (by omega) (r3.trans hs3) J.out.1 (by omega) (by omega) (by omega) hlm X.out.1.1
                        go_wp2_with (go_at_call 37; refine hih.mono ?_; rintro e w8 ⟨rfl, dL, pL, sL, hrL, hoL⟩)
                        go_roundg (b' - (mid + 1))
                        case measure => omega
                        case rel =>
                          exact ⟨mid + 1, b', lm, _, ap, dL, by simp, rfl, rfl, rfl, rfl, by omega, by omega, Nat.le_refl _, by omega, hlm,
                            ⟨pL.1.trans (r3.trans hs3), (X.out.2.1 dL pL sL).1, hrL, J.out.2.trans hoL, fun R h1 h2 => I5.out.fin R ((X.out.2.1 dL pL sL).2 R h1 h2).1 ((X.out.2.1 dL pL sL).2 R h1 h2).2⟩⟩
                      · have h4z : ¬ ((mid : Int) - (a' : Int) < (b' : Int) - (mid : Int)) := by omega
                        have hih := ih b o cap (mid + 1) b' lm d.size d4 w7 (by omega) (r3.trans hs3) J.out.1 (by omega) (by omega) (by omega) hlm X.out.1.2
                        go_wp2_with (go_at_call 37; refine hih.mono ?_; rintro e w8 ⟨rfl, dL, pL, sL, hrL, hoL⟩)
                        go_roundg (mid - a')
                        case measure => omega
                        case rel =>
                          exact ⟨a', mid, lm, _, ap, dL, rfl, rfl, rfl, rfl, rfl, by omega, by omega, Nat.le_refl _, by omega, hlm,
                            ⟨pL.1.trans (r3.trans hs3), (X.out.2.2 dL pL sL).1, hrL, J.out.2.trans hoL, fun R h1 h2 => I5.out.fin R ((X.out.2.2 dL pL sL).2 R h1 h2).1 ((X.out.2.2 dL pL sL).2 R h1 h2).2⟩⟩
                    · obtain ⟨ha0, hnl⟩ := hβ rfl
                      rw [HG.out, HG.out] at hnl
                      obtain ⟨mid, d4, hx⟩ : ∃ mid d4, partitionEqual ltInt d3 a' b' pv = (mid, d4) := ⟨(partitionEqual ltInt d3 a' b' pv).1, (partitionEqual ltInt d3 a' b' pv).2, rfl⟩
                      obtain ⟨r1, r2, r3, r4, r5⟩ := round_eq swo_ltInt (partitionEqual_holds ltInt) ha0 hpv1 hpv2 (show b' ≤ d3.size by omega) I5.out.bel hnl hx
                      have hc46 := pe46 b o cap a' b' pv d3 wc I5.out.row hpv1 hpv2 (by omega) (by omega)
                      rw [hs3, hx] at hc46
                      have X : Aside (Go.Sort.Below ltInt mid b' d4 ∧ ∀ R, PermIn mid b' d4 R → SortedIn ltInt mid b' R → PermIn a' b' d3 R ∧ SortedIn ltInt a' b' R) := ⟨r4, r5⟩
                      clear hx r4 r5 hnl hβ
                      go_wp2_with (go_at_call 46; refine hc46.mono ?_; rintro e w7 ⟨rfl, hr7, ho7⟩)
                      go_roundg (b' - mid)
                      case measure => omega
                      case rel =>
                        exact ⟨mid, b', lm, wb, wp, d4, rfl, rfl, rfl, rfl, rfl, r2, hb', Nat.le_refl _, by omega, hlm,
                          ⟨r3.trans hs3, X.out.1, hr7, I5.out.only.trans ho7, fun R h1 h2 => I5.out.fin R (X.out.2 R h1 h2).1 (X.out.2 R h1 h2).2⟩⟩
end Go.Proofs.Qxb6603969a
