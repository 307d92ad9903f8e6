import Derived.Test.Qxb6603969aS2
import Derived.Sort.WalkB3
namespace Go.Proofs.Qxb6603969a
open Go.RowKit Go.Sort
set_option linter.unusedVariables false

set_option maxHeartbeats 3200000 in
set_option maxRecDepth 1000000 in
theorem sift50 (b o cap lo hi first n : Nat) (d : Array Int) (w : World) (hn : d.size = n) (hr : SRow w b o d) (hlo : lo ≤ hi) (hb : first + hi ≤ d.size) (hsz : d.size ≤ 1048576) :
    Calls Try.prog 50 #[.slice (some ⟨b, o, none⟩) n cap, .int .i64 lo, .int .i64 hi, .int .i64 first] w fun e w' => SPost b o (siftDown ltInt hi first lo d) w e w' := by
  subst hn
  go_enter Try.func50, Try.ntmps50
  go_wp2
  go_loopg [8] (hi - lo) (fun k s8 wr => ∃ (root : Nat) (dk : Array Int), s8 = .int .i64 root ∧ root ≤ hi ∧ hi - root ≤ k ∧ dk.size = d.size ∧ SRow wr b o dk ∧ Only b w wr ∧ siftDown ltInt hi first root dk = siftDown ltInt hi first lo d)
  case atStart => exact ⟨lo, d, rfl, hlo, Nat.le_refl _, rfl, hr, Only.refl _ _, rfl⟩
  case round =>
    obtain ⟨root, dk, rfl, hrt, hk, hds, hrk, hOk, heq⟩ := hrel
    obtain ⟨G, hc, hf, HG⟩ := hrk.fam
    rw [hds] at hc hf
    have HE : Aside (siftDown ltInt hi first root dk = siftDown ltInt hi first lo d ∧ SRow wr b o dk ∧ Only b w wr) := ⟨heq, hrk, hOk⟩
    clear heq hrk hOk hr
    by_cases h0 : hi ≤ 2 * root + 1
    · have h0z : (hi : Int) ≤ 2 * (root : Int) + 1 := by omega
      go_wp2
      go_end0
      exact ⟨rfl, by rw [← HE.out.1, sd_end ltInt dk h0]; exact HE.out.2.1, HE.out.2.2⟩
    · have h0z : ¬ ((hi : Int) ≤ 2 * (root : Int) + 1) := by omega
      by_cases h1 : 2 * root + 2 < hi
      · have h1z : 2 * (root : Int) + 1 + 1 < (hi : Int) := by omega
        go_wp2_with fail
        go_quiet ((go_at_call 45; exact Calls.quiet_of_same (less45 _ _ _)))
        go_wp2_with fail
        · have hL : ltInt (G (first + 2 * root + 1)) (G (first + 2 * root + 2)) = true := by assumption
          have HL : Aside (ltInt dk[first + (2 * root + 1)]! dk[first + (2 * root + 2)]! = true) := by rw [HG.out, HG.out] at hL; exact hL
          clear hL
          revert nq; intro nq1
          have hc2 : ∀ t, t < d.size → (wr.drewN nq1).cell? ⟨b, o + t, none⟩ = some (.int .u16 (G t)) := hc
          have hf2 : ∀ t, t < d.size → (wr.drewN nq1).frozen? ⟨b, o + t, none⟩ = false := hf
          have H2 : Aside (SRow (wr.drewN nq1) b o dk ∧ Only b w (wr.drewN nq1)) := ⟨HE.out.2.1.drewN _, HE.out.2.2.drewN _⟩
          have E2 : Aside (siftDown ltInt hi first root dk = siftDown ltInt hi first lo d) := HE.out.1
          clear hc hf HE
          generalize wr.drewN nq1 = wr2 at hc2 hf2 H2 ⊢
          go_quiet ((go_at_call 45; exact Calls.quiet_of_same (less45 _ _ _)))
          go_wp2_with fail
          · have hS : ltInt (G (first + root)) (G (first + 2 * root + 2)) = false := by
              have : (!ltInt (G (first + root)) (G (first + 2 * root + 2))) = true := by assumption
              simpa using this
            (try simp only [Exit.inBlock, Exit.then]); refine bodyPost_ret (results_none rfl _ _ _) rfl ?_
            refine ⟨rfl, ?_, H2.out.2.drewN _⟩
            rw [HG.out, HG.out] at hS
            rw [← E2.out, sd_right_stop ltInt dk h1 HL.out hS]
            exact H2.out.1.drewN _
          · have hS : ltInt (G (first + root)) (G (first + 2 * root + 2)) = true := by
              have : (!ltInt (G (first + root)) (G (first + 2 * root + 2))) = false := by assumption
              simpa using this
            have hc3 : ∀ t, t < d.size → (wr2.drewN nq).cell? ⟨b, o + t, none⟩ = some (.int .u16 (G t)) := hc2
            have hf3 : ∀ t, t < d.size → (wr2.drewN nq).frozen? ⟨b, o + t, none⟩ = false := hf2
            have H3 : Aside (SRow (wr2.drewN nq) b o dk ∧ Only b w (wr2.drewN nq)) := ⟨H2.out.1.drewN _, H2.out.2.drewN _⟩
            clear hc2 hf2 H2
            generalize wr2.drewN nq = wr3 at hc3 hf3 H3 ⊢
            go_region
            go_wp2
            go_roundg (hi - (2 * root + 2))
            case measure => omega
            case rel =>
              go_light
              rw [HG.out, HG.out] at hS
              refine ⟨2 * root + 2, swp dk (first + root) (first + (2 * root + 2)), by simp <;> omega, by omega, Nat.le_refl _, by rw [size_swp]; exact hds, ?_, ?_, ?_⟩
              · rw [HG.out, HG.out]
                exact (H3.out.1.swap (by omega) (by omega)).drew
              · exact (H3.out.2.swap _ _ _ _).drew
              · rw [← E2.out, sd_right_go ltInt dk h1 HL.out hS]

        · have hL : ltInt (G (first + 2 * root + 1)) (G (first + 2 * root + 2)) = false := by assumption
          have HL : Aside (ltInt dk[first + (2 * root + 1)]! dk[first + (2 * root + 2)]! = false) := by rw [HG.out, HG.out] at hL; exact hL
          clear hL
          revert nq; intro nq1
          have hc2 : ∀ t, t < d.size → (wr.drewN nq1).cell? ⟨b, o + t, none⟩ = some (.int .u16 (G t)) := hc
          have hf2 : ∀ t, t < d.size → (wr.drewN nq1).frozen? ⟨b, o + t, none⟩ = false := hf
          have H2 : Aside (SRow (wr.drewN nq1) b o dk ∧ Only b w (wr.drewN nq1)) := ⟨HE.out.2.1.drewN _, HE.out.2.2.drewN _⟩
          have E2 : Aside (siftDown ltInt hi first root dk = siftDown ltInt hi first lo d) := HE.out.1
          clear hc hf HE
          generalize wr.drewN nq1 = wr2 at hc2 hf2 H2 ⊢
          go_quiet ((go_at_call 45; exact Calls.quiet_of_same (less45 _ _ _)))
          go_wp2_with fail
          · have hS : ltInt (G (first + root)) (G (first + 2 * root + 1)) = false := by
              have : (!ltInt (G (first + root)) (G (first + 2 * root + 1))) = true := by assumption
              simpa using this
            (try simp only [Exit.inBlock, Exit.then]); refine bodyPost_ret (results_none rfl _ _ _) rfl ?_
            refine ⟨rfl, ?_, H2.out.2.drewN _⟩
            rw [HG.out, HG.out] at hS
            rw [← E2.out, sd_left_stop ltInt dk (by omega) (fun _ => HL.out) hS]
            exact H2.out.1.drewN _
          · have hS : ltInt (G (first + root)) (G (first + 2 * root + 1)) = true := by
              have : (!ltInt (G (first + root)) (G (first + 2 * root + 1))) = false := by assumption
              simpa using this
            have hc3 : ∀ t, t < d.size → (wr2.drewN nq).cell? ⟨b, o + t, none⟩ = some (.int .u16 (G t)) := hc2
            have hf3 : ∀ t, t < d.size → (wr2.drewN nq).frozen? ⟨b, o + t, none⟩ = false := hf2
            have H3 : Aside (SRow (wr2.drewN nq) b o dk ∧ Only b w (wr2.drewN nq)) := ⟨H2.out.1.drewN _, H2.out.2.drewN _⟩
            clear hc2 hf2 H2
            generalize wr2.drewN nq = wr3 at hc3 hf3 H3 ⊢
            go_region
            go_wp2
            go_roundg (hi - (2 * root + 1))
            case measure => omega
            case rel =>
              go_light
              rw [HG.out, HG.out] at hS
              refine ⟨2 * root + 1, swp dk (first + root) (first + (2 * root + 1)), by simp <;> omega, by omega, Nat.le_refl _, by rw [size_swp]; exact hds, ?_, ?_, ?_⟩
              · rw [HG.out, HG.out]
                exact (H3.out.1.swap (by omega) (by omega)).drew
              · exact (H3.out.2.swap _ _ _ _).drew
              · rw [← E2.out, sd_left_go ltInt dk (by omega) (fun _ => HL.out) hS]

      · have h1z : decide (2 * (root : Int) + 1 + 1 < (hi : Int)) = false := decide_eq_false (by omega)
        go_wp2_with fail
        go_quiet ((go_at_call 45; exact Calls.quiet_of_same (less45 _ _ _)))
        go_wp2_with fail
        revert nq; intro nq1
        have hc2 : ∀ t, t < d.size → (wr.drewN nq1).cell? ⟨b, o + t, none⟩ = some (.int .u16 (G t)) := hc
        have hf2 : ∀ t, t < d.size → (wr.drewN nq1).frozen? ⟨b, o + t, none⟩ = false := hf
        have H2 : Aside (SRow (wr.drewN nq1) b o dk ∧ Only b w (wr.drewN nq1)) := ⟨HE.out.2.1.drewN _, HE.out.2.2.drewN _⟩
        have E2 : Aside (siftDown ltInt hi first root dk = siftDown ltInt hi first lo d) := HE.out.1
        clear hc hf HE
        generalize wr.drewN nq1 = wr2 at hc2 hf2 H2 ⊢
        go_quiet ((go_at_call 45; exact Calls.quiet_of_same (less45 _ _ _)))
        go_wp2_with fail
        · have hS : ltInt (G (first + root)) (G (first + 2 * root + 1)) = false := by
            have : (!ltInt (G (first + root)) (G (first + 2 * root + 1))) = true := by assumption
            simpa using this
          (try simp only [Exit.inBlock, Exit.then]); refine bodyPost_ret (results_none rfl _ _ _) rfl ?_
          refine ⟨rfl, ?_, H2.out.2.drewN _⟩
          rw [HG.out, HG.out] at hS
          rw [← E2.out, sd_left_stop ltInt dk (by omega) (fun h => absurd h h1) hS]
          exact H2.out.1.drewN _
        · have hS : ltInt (G (first + root)) (G (first + 2 * root + 1)) = true := by
            have : (!ltInt (G (first + root)) (G (first + 2 * root + 1))) = false := by assumption
            simpa using this
          have hc3 : ∀ t, t < d.size → (wr2.drewN nq).cell? ⟨b, o + t, none⟩ = some (.int .u16 (G t)) := hc2
          have hf3 : ∀ t, t < d.size → (wr2.drewN nq).frozen? ⟨b, o + t, none⟩ = false := hf2
          have H3 : Aside (SRow (wr2.drewN nq) b o dk ∧ Only b w (wr2.drewN nq)) := ⟨H2.out.1.drewN _, H2.out.2.drewN _⟩
          clear hc2 hf2 H2
          generalize wr2.drewN nq = wr3 at hc3 hf3 H3 ⊢
          go_region
          go_wp2
          go_roundg (hi - (2 * root + 1))
          case measure => omega
          case rel =>
            go_light
            rw [HG.out, HG.out] at hS
            refine ⟨2 * root + 1, swp dk (first + root) (first + (2 * root + 1)), by simp <;> omega, by omega, Nat.le_refl _, by rw [size_swp]; exact hds, ?_, ?_, ?_⟩
            · rw [HG.out, HG.out]
              exact (H3.out.1.swap (by omega) (by omega)).drew
            · exact (H3.out.2.swap _ _ _ _).drew
            · rw [← E2.out, sd_left_go ltInt dk (by omega) (fun h => absurd h h1) hS]

end Go.Proofs.Qxb6603969a
