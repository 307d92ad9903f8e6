import Derived.Test.Qxb6603969aS4
import Derived.Sort.WalkA6
namespace Go.Proofs.Qxb6603969a
open Go.RowKit Go.Sort
set_option linter.unusedVariables false

def PPost (b o : Nat) (r : Array Int × Bool) (w : World) (e : Ending) (w' : World) : Prop := e = .returned (.bool r.2) ∧ SRow w' b o r.1 ∧ Only b w w'

set_option maxHeartbeats 6400000 in
set_option maxRecDepth 1000000 in
theorem part44 (b o cap x y : Nat) (d : Array Int) (w : World) (hr : SRow w b o d) (hxy : x < y) (hy : y ≤ d.size) (hsz : d.size ≤ 1048576) :
    Calls Try.prog 44 #[.slice (some ⟨b, o, none⟩) d.size cap, .int .i64 x, .int .i64 y] w fun e w' => PPost b o (partialInsertionSort ltInt d x y) w e w' := by
  go_enter Try.func44, Try.ntmps44
  go_wp2
  go_loopg [7, 8] 5 (fun g vi vs wr => ∃ (i s : Nat) (dk : Array Int), g = 5 - s ∧ vi = .int .i64 i ∧ vs = .int .i64 s ∧ s ≤ 5 ∧ x < i ∧ i ≤ y ∧ dk.size = d.size ∧ SRow wr b o dk ∧ Only b w wr ∧ partialIns ltInt x y (5 - s) i dk = partialIns ltInt x y 5 (x + 1) d)
  case atStart => exact ⟨x + 1, 0, d, rfl, by go_num, rfl, by omega, by omega, by omega, rfl, hr, Only.refl _ _, rfl⟩
  case round =>
    obtain ⟨i, s, dk, rfl, rfl, rfl, hs5, hxi, hiy, hsk, hrk, hOk, hO⟩ := hrel
    have HO : Aside (partialIns ltInt x y (5 - s) i dk = partialIns ltInt x y 5 (x + 1) d) := hO
    have HK0 : Aside (SRow wr b o dk ∧ Only b w wr) := ⟨hrk, hOk⟩
    clear hO hrk hOk hr
    by_cases hs : s < 5
    · go_wp2
      obtain ⟨wo, rfl⟩ : ∃ wo : World, wo = wr := ⟨_, rfl⟩
      go_loopg [7] (y - i) (fun g vi wr => ∃ (k : Nat), g = y - k ∧ vi = .int .i64 k ∧ i ≤ k ∧ k ≤ y ∧ SRow wr b o dk ∧ Only b w wr ∧ scanSorted ltInt dk y k = scanSorted ltInt dk y i)
      case atStart => exact ⟨i, rfl, rfl, Nat.le_refl _, hiy, HK0.out.1, HK0.out.2, rfl⟩
      case round =>
        obtain ⟨k, rfl, rfl, hik, hky, hrk, hOk, hS⟩ := hrel
        obtain ⟨G, hc, hf, HG⟩ := hrk.fam
        rw [hsk] at hc hf
        have HS : Aside (scanSorted ltInt dk y k = scanSorted ltInt dk y i) := hS
        have HR : Aside (SRow wr b o dk ∧ Only b w wr) := ⟨hrk, hOk⟩
        clear hS hrk hOk
        by_cases hky' : k < y
        · have hne : ((k : Int) == (y : Int)) = false := by simp; omega
          by_cases h50 : y - x < 50
          · have h50z : decide ((y : Int) - (x : Int) < 50) = true := decide_eq_true (by omega)
            go_wp2_with fail
            go_quiet ((go_at_call 45; exact Calls.quiet_of_same (less45 _ _ _)))
            go_wp2_with fail
            · have hl : ltInt (G k) (G (k - 1)) = false := by
                have h : (!ltInt (G k) (G (k - 1))) = true := by assumption
                simpa using h
              go_wp2
              go_roundg (y - (k + 1))
              case rel =>
                go_light
                exact ⟨k + 1, rfl, by go_num, by omega, by omega, HR.out.1.drewN _, HR.out.2.drewN _, by rw [← HS.out, scanSorted_go ltInt dk y k hky' (by rw [← HG.out, ← HG.out]; exact hl)]⟩
              case measure => go_light; omega
            · have hl : ltInt (G k) (G (k - 1)) = true := by
                have h : (!ltInt (G k) (G (k - 1))) = false := by assumption
                simpa using h
              have HK : Aside (scanSorted ltInt dk y i = k) := by
                show scanSorted ltInt dk y i = k
                rw [← HS.out, scanSorted_stop ltInt dk y k (Or.inr (by rw [← HG.out, ← HG.out]; exact hl))]
              clear hl HS
              have hv : partialInsertionSort ltInt d x y = (dk, false) := by
                unfold partialInsertionSort
                rw [← HO.out, pi_short ltInt x y s i dk hs (by rw [HK.out]; omega) (by omega)]
              rw [hv]
              go_ret
              exact ⟨rfl, HR.out.1.drewN _, HR.out.2.drewN _⟩
          · have h50z : decide ((y : Int) - (x : Int) < 50) = false := decide_eq_false (by omega)
            go_wp2_with fail
            go_quiet ((go_at_call 45; exact Calls.quiet_of_same (less45 _ _ _)))
            go_wp2_with fail
            · have hl : ltInt (G k) (G (k - 1)) = false := by
                have h : (!ltInt (G k) (G (k - 1))) = true := by assumption
                simpa using h
              go_wp2
              go_roundg (y - (k + 1))
              case rel =>
                go_light
                exact ⟨k + 1, rfl, by go_num, by omega, by omega, HR.out.1.drewN _, HR.out.2.drewN _, by rw [← HS.out, scanSorted_go ltInt dk y k hky' (by rw [← HG.out, ← HG.out]; exact hl)]⟩
              case measure => go_light; omega
            · have hl : ltInt (G k) (G (k - 1)) = true := by
                have h : (!ltInt (G k) (G (k - 1))) = false := by assumption
                simpa using h
              have HK : Aside (scanSorted ltInt dk y i = k) := by
                show scanSorted ltInt dk y i = k
                rw [← HS.out, scanSorted_stop ltInt dk y k (Or.inr (by rw [← HG.out, ← HG.out]; exact hl))]
              clear hl HS
              have outr : ∀ (du : Array Int) (W : World), du.size = d.size → SRow W b o du → Only b w W → fixUp ltInt y k (fixDown ltInt x k (swp dk k (k - 1))) = du →
                  ∃ (i s' : Nat) (dk : Array Int), 5 - (s + 1) = 5 - s' ∧ Value.int .i64 (k : Int) = .int .i64 i ∧ Value.int .i64 ((s : Int) + 1) = .int .i64 s' ∧ s' ≤ 5 ∧ x < i ∧ i ≤ y ∧ dk.size = d.size ∧ SRow W b o dk ∧ Only b w W ∧ partialIns ltInt x y (5 - s') i dk = partialIns ltInt x y 5 (x + 1) d :=
                fun du W h1 h2 h3 h4 => ⟨k, s + 1, du, rfl, rfl, by go_num, by omega, by omega, by omega, h1, h2, h3, by rw [← HO.out, pi_go ltInt x y s i k dk hs HK.out (by omega) (by omega), h4]⟩
              have OUTR : Aside _ := outr
              clear outr
              have hs1 : (swp dk k (k - 1)).size = d.size := by rw [size_swp]; exact hsk
              go_region
              have HJ : Aside (SRow (((wr.drewN (nq + 1)).setCell ⟨b, o + k, none⟩ (.int .u16 (G (k - 1)))).setCell ⟨b, o + (k - 1), none⟩ (.int .u16 (G k))) b o (swp dk k (k - 1)) ∧ Only b w (((wr.drewN (nq + 1)).setCell ⟨b, o + k, none⟩ (.int .u16 (G (k - 1)))).setCell ⟨b, o + (k - 1), none⟩ (.int .u16 (G k)))) :=
                ⟨(HR.out.1.drewN (nq + 1)).swap' (by omega) (by omega) (HG.out _) (HG.out _), (HR.out.2.drewN _).swap _ _ _ _⟩
              generalize ((wr.drewN (nq + 1)).setCell ⟨b, o + k, none⟩ (.int .u16 (G (k - 1)))).setCell ⟨b, o + (k - 1), none⟩ (.int .u16 (G k)) = wr at HJ ⊢
              by_cases hka : k - x ≥ 2
              · by_cases hyk : y - k ≥ 2
                · go_wp2
                  go_loopg [9] (k - 1) (fun g vj wr => ∃ (j : Nat) (dj : Array Int), g = j + 0 ∧ vj = .int .i64 j ∧ j ≤ k - 1 ∧ dj.size = d.size ∧ SRow wr b o dj ∧ Only b w wr ∧ shiftDown ltInt j dj = shiftDown ltInt (k - 1) (swp dk k (k - 1)))
                  case atStart => exact ⟨k - 1, swp dk k (k - 1), rfl, by congr 1; omega, Nat.le_refl _, hs1, HJ.out.1, HJ.out.2, rfl⟩
                  case round =>
                    obtain ⟨j, dj, hgj, rfl, hjk, hsj, hrj, hOj, hDn⟩ := hrel
                    obtain ⟨G, hc, hf, HG⟩ := hrj.fam
                    rw [hsj] at hc hf
                    have HDn : Aside (shiftDown ltInt j dj = shiftDown ltInt (k - 1) (swp dk k (k - 1))) := hDn
                    have HR : Aside (SRow wr b o dj ∧ Only b w wr) := ⟨hrj, hOj⟩
                    clear hrj hOj hDn HJ
                    by_cases hj1 : 1 ≤ j
                    · go_wp2_with fail
                      go_quiet ((go_at_call 45; exact Calls.quiet_of_same (less45 _ _ _)))
                      go_wp2_with fail
                      · have hl : ltInt (G j) (G (j - 1)) = false := by
                          have h : (!ltInt (G j) (G (j - 1))) = true := by assumption
                          simpa using h
                        have HD : Aside (fixDown ltInt x k (swp dk k (k - 1)) = dj) := by
                          show fixDown ltInt x k (swp dk k (k - 1)) = dj
                          unfold fixDown; rw [if_pos hka, ← HDn.out, shiftDown_stop ltInt j dj (Or.inr (by rw [← HG.out, ← HG.out]; exact hl))]
                        have HR2 : Aside (SRow (wr.drewN nq) b o dj ∧ Only b w (wr.drewN nq)) := ⟨HR.out.1.drewN _, HR.out.2.drewN _⟩
                        clear hl hc hf HG HDn HR
                        generalize wr.drewN nq = wr at HR2 ⊢
                        go_wp2
                        obtain ⟨wu, hwu⟩ : ∃ wu : World, wu = wr := ⟨_, rfl⟩
                        go_loopg [10] (y - (k + 1)) (fun g vj wr => ∃ (j : Nat) (du : Array Int), g = y - j ∧ vj = .int .i64 j ∧ k + 1 ≤ j ∧ j ≤ y ∧ du.size = d.size ∧ SRow wr b o du ∧ Only b w wr ∧ shiftUp ltInt y j du = shiftUp ltInt y (k + 1) dj)
                        case atStart => exact ⟨k + 1, dj, rfl, by go_num, Nat.le_refl _, by omega, hsj, HR2.out.1, HR2.out.2, rfl⟩
                        case round =>
                          obtain ⟨j, du, rfl, rfl, hkj, hjy, hsu, hru, hOu, hU⟩ := hrel
                          obtain ⟨G, hc, hf, HG⟩ := hru.fam
                          rw [hsu] at hc hf
                          have HU : Aside (shiftUp ltInt y j du = shiftUp ltInt y (k + 1) dj) := hU
                          have HR : Aside (SRow wr b o du ∧ Only b w wr) := ⟨hru, hOu⟩
                          clear hru hOu hU
                          by_cases hjy' : j < y
                          · go_wp2_with fail
                            go_quiet ((go_at_call 45; exact Calls.quiet_of_same (less45 _ _ _)))
                            go_wp2_with fail
                            · have hl : ltInt (G j) (G (j - 1)) = false := by
                                have h : (!ltInt (G j) (G (j - 1))) = true := by assumption
                                simpa using h
                              go_wp2
                              go_roundg (5 - (s + 1))
                              case rel =>
                                go_light
                                exact OUTR.out du _ hsu (HR.out.1.drewN _) (HR.out.2.drewN _) (by rw [HD.out]; unfold fixUp; rw [if_pos (by omega), ← HU.out, shiftUp_stop ltInt y j du (Or.inr (by rw [← HG.out, ← HG.out]; exact hl))])
                              case measure => go_light; omega
                            · have hl : ltInt (G j) (G (j - 1)) = true := by
                                have h : (!ltInt (G j) (G (j - 1))) = false := by assumption
                                simpa using h
                              go_region
                              all_goals go_wp2
                              go_roundg (y - (j + 1))
                              case rel =>
                                go_light
                                refine ⟨j + 1, swp du j (j - 1), rfl, by go_num, by omega, by omega, by rw [size_swp]; exact hsu, ?_, ?_, ?_⟩
                                · exact (HR.out.1.drewN (nq + 1)).swap' (by omega) (by omega) (HG.out _) (HG.out _)
                                · exact (HR.out.2.drewN _).swap _ _ _ _
                                · rw [← HU.out, shiftUp_go ltInt y j du (by omega) (by rw [← HG.out, ← HG.out]; exact hl)]
                              case measure => go_light; omega
                          · go_wp2
                            go_roundg (5 - (s + 1))
                            case rel =>
                              go_light
                              exact OUTR.out du _ hsu HR.out.1 HR.out.2 (by rw [HD.out]; unfold fixUp; rw [if_pos (by omega), ← HU.out, shiftUp_stop ltInt y j du (Or.inl (by omega))])
                            case measure => go_light; omega

                      · have hl : ltInt (G j) (G (j - 1)) = true := by
                          have h : (!ltInt (G j) (G (j - 1))) = false := by assumption
                          simpa using h
                        go_region
                        all_goals go_wp2
                        go_roundg (j - 1)
                        case rel =>
                          go_light
                          refine ⟨j - 1, swp dj j (j - 1), by omega, by congr 1; omega, by omega, by rw [size_swp]; exact hsj, ?_, ?_, ?_⟩
                          · exact (HR.out.1.drewN (nq + 1)).swap' (by omega) (by omega) (HG.out _) (HG.out _)
                          · exact (HR.out.2.drewN _).swap _ _ _ _
                          · rw [← HDn.out, shiftDown_go ltInt j dj (by omega) (by rw [← HG.out, ← HG.out]; exact hl)]
                        case measure => go_light; omega
                    · have HD : Aside (fixDown ltInt x k (swp dk k (k - 1)) = dj) := by
                        show fixDown ltInt x k (swp dk k (k - 1)) = dj
                        unfold fixDown; rw [if_pos hka, ← HDn.out, shiftDown_stop ltInt j dj (Or.inl (by omega))]
                      clear hc hf HG HDn
                      go_wp2
                      obtain ⟨wu, hwu⟩ : ∃ wu : World, wu = wr := ⟨_, rfl⟩
                      go_loopg [10] (y - (k + 1)) (fun g vj wr => ∃ (j : Nat) (du : Array Int), g = y - j ∧ vj = .int .i64 j ∧ k + 1 ≤ j ∧ j ≤ y ∧ du.size = d.size ∧ SRow wr b o du ∧ Only b w wr ∧ shiftUp ltInt y j du = shiftUp ltInt y (k + 1) dj)
                      case atStart => exact ⟨k + 1, dj, rfl, by go_num, Nat.le_refl _, by omega, hsj, HR.out.1, HR.out.2, rfl⟩
                      case round =>
                        obtain ⟨j, du, rfl, rfl, hkj, hjy, hsu, hru, hOu, hU⟩ := hrel
                        obtain ⟨G, hc, hf, HG⟩ := hru.fam
                        rw [hsu] at hc hf
                        have HU : Aside (shiftUp ltInt y j du = shiftUp ltInt y (k + 1) dj) := hU
                        have HR : Aside (SRow wr b o du ∧ Only b w wr) := ⟨hru, hOu⟩
                        clear hru hOu hU
                        by_cases hjy' : j < y
                        · go_wp2_with fail
                          go_quiet ((go_at_call 45; exact Calls.quiet_of_same (less45 _ _ _)))
                          go_wp2_with fail
                          · have hl : ltInt (G j) (G (j - 1)) = false := by
                              have h : (!ltInt (G j) (G (j - 1))) = true := by assumption
                              simpa using h
                            go_wp2
                            go_roundg (5 - (s + 1))
                            case rel =>
                              go_light
                              exact OUTR.out du _ hsu (HR.out.1.drewN _) (HR.out.2.drewN _) (by rw [HD.out]; unfold fixUp; rw [if_pos (by omega), ← HU.out, shiftUp_stop ltInt y j du (Or.inr (by rw [← HG.out, ← HG.out]; exact hl))])
                            case measure => go_light; omega
                          · have hl : ltInt (G j) (G (j - 1)) = true := by
                              have h : (!ltInt (G j) (G (j - 1))) = false := by assumption
                              simpa using h
                            go_region
                            all_goals go_wp2
                            go_roundg (y - (j + 1))
                            case rel =>
                              go_light
                              refine ⟨j + 1, swp du j (j - 1), rfl, by go_num, by omega, by omega, by rw [size_swp]; exact hsu, ?_, ?_, ?_⟩
                              · exact (HR.out.1.drewN (nq + 1)).swap' (by omega) (by omega) (HG.out _) (HG.out _)
                              · exact (HR.out.2.drewN _).swap _ _ _ _
                              · rw [← HU.out, shiftUp_go ltInt y j du (by omega) (by rw [← HG.out, ← HG.out]; exact hl)]
                            case measure => go_light; omega
                        · go_wp2
                          go_roundg (5 - (s + 1))
                          case rel =>
                            go_light
                            exact OUTR.out du _ hsu HR.out.1 HR.out.2 (by rw [HD.out]; unfold fixUp; rw [if_pos (by omega), ← HU.out, shiftUp_stop ltInt y j du (Or.inl (by omega))])
                          case measure => go_light; omega
                · go_wp2
                  go_loopg [9] (k - 1) (fun g vj wr => ∃ (j : Nat) (dj : Array Int), g = j + 0 ∧ vj = .int .i64 j ∧ j ≤ k - 1 ∧ dj.size = d.size ∧ SRow wr b o dj ∧ Only b w wr ∧ shiftDown ltInt j dj = shiftDown ltInt (k - 1) (swp dk k (k - 1)))
                  case atStart => exact ⟨k - 1, swp dk k (k - 1), rfl, by congr 1; omega, Nat.le_refl _, hs1, HJ.out.1, HJ.out.2, rfl⟩
                  case round =>
                    obtain ⟨j, dj, hgj, rfl, hjk, hsj, hrj, hOj, hDn⟩ := hrel
                    obtain ⟨G, hc, hf, HG⟩ := hrj.fam
                    rw [hsj] at hc hf
                    have HDn : Aside (shiftDown ltInt j dj = shiftDown ltInt (k - 1) (swp dk k (k - 1))) := hDn
                    have HR : Aside (SRow wr b o dj ∧ Only b w wr) := ⟨hrj, hOj⟩
                    clear hrj hOj hDn HJ
                    by_cases hj1 : 1 ≤ j
                    · go_wp2_with fail
                      go_quiet ((go_at_call 45; exact Calls.quiet_of_same (less45 _ _ _)))
                      go_wp2_with fail
                      · have hl : ltInt (G j) (G (j - 1)) = false := by
                          have h : (!ltInt (G j) (G (j - 1))) = true := by assumption
                          simpa using h
                        have HD : Aside (fixDown ltInt x k (swp dk k (k - 1)) = dj) := by
                          show fixDown ltInt x k (swp dk k (k - 1)) = dj
                          unfold fixDown; rw [if_pos hka, ← HDn.out, shiftDown_stop ltInt j dj (Or.inr (by rw [← HG.out, ← HG.out]; exact hl))]
                        have HR2 : Aside (SRow (wr.drewN nq) b o dj ∧ Only b w (wr.drewN nq)) := ⟨HR.out.1.drewN _, HR.out.2.drewN _⟩
                        clear hl hc hf HG HDn HR
                        generalize wr.drewN nq = wr at HR2 ⊢
                        go_wp2
                        go_roundg (5 - (s + 1))
                        case rel => go_light; exact OUTR.out dj _ hsj (HR2.out.1) (HR2.out.2) (by rw [HD.out]; unfold fixUp; rw [if_neg (by omega)])
                        case measure => go_light; omega

                      · have hl : ltInt (G j) (G (j - 1)) = true := by
                          have h : (!ltInt (G j) (G (j - 1))) = false := by assumption
                          simpa using h
                        go_region
                        all_goals go_wp2
                        go_roundg (j - 1)
                        case rel =>
                          go_light
                          refine ⟨j - 1, swp dj j (j - 1), by omega, by congr 1; omega, by omega, by rw [size_swp]; exact hsj, ?_, ?_, ?_⟩
                          · exact (HR.out.1.drewN (nq + 1)).swap' (by omega) (by omega) (HG.out _) (HG.out _)
                          · exact (HR.out.2.drewN _).swap _ _ _ _
                          · rw [← HDn.out, shiftDown_go ltInt j dj (by omega) (by rw [← HG.out, ← HG.out]; exact hl)]
                        case measure => go_light; omega
                    · have HD : Aside (fixDown ltInt x k (swp dk k (k - 1)) = dj) := by
                        show fixDown ltInt x k (swp dk k (k - 1)) = dj
                        unfold fixDown; rw [if_pos hka, ← HDn.out, shiftDown_stop ltInt j dj (Or.inl (by omega))]
                      clear hc hf HG HDn
                      go_wp2
                      go_roundg (5 - (s + 1))
                      case rel => go_light; exact OUTR.out dj _ hsj (HR.out.1) (HR.out.2) (by rw [HD.out]; unfold fixUp; rw [if_neg (by omega)])
                      case measure => go_light; omega
              · by_cases hyk : y - k ≥ 2
                · go_wp2
                  have HD : Aside (fixDown ltInt x k (swp dk k (k - 1)) = swp dk k (k - 1)) := by
                    show fixDown ltInt x k (swp dk k (k - 1)) = swp dk k (k - 1)
                    unfold fixDown; rw [if_neg hka]
                  obtain ⟨wu, hwu⟩ : ∃ wu : World, wu = wr := ⟨_, rfl⟩
                  go_loopg [10] (y - (k + 1)) (fun g vj wr => ∃ (j : Nat) (du : Array Int), g = y - j ∧ vj = .int .i64 j ∧ k + 1 ≤ j ∧ j ≤ y ∧ du.size = d.size ∧ SRow wr b o du ∧ Only b w wr ∧ shiftUp ltInt y j du = shiftUp ltInt y (k + 1) (swp dk k (k - 1)))
                  case atStart => exact ⟨k + 1, (swp dk k (k - 1)), rfl, by go_num, Nat.le_refl _, by omega, hs1, HJ.out.1, HJ.out.2, rfl⟩
                  case round =>
                    obtain ⟨j, du, rfl, rfl, hkj, hjy, hsu, hru, hOu, hU⟩ := hrel
                    obtain ⟨G, hc, hf, HG⟩ := hru.fam
                    rw [hsu] at hc hf
                    have HU : Aside (shiftUp ltInt y j du = shiftUp ltInt y (k + 1) (swp dk k (k - 1))) := hU
                    have HR : Aside (SRow wr b o du ∧ Only b w wr) := ⟨hru, hOu⟩
                    clear hru hOu hU
                    by_cases hjy' : j < y
                    · go_wp2_with fail
                      go_quiet ((go_at_call 45; exact Calls.quiet_of_same (less45 _ _ _)))
                      go_wp2_with fail
                      · have hl : ltInt (G j) (G (j - 1)) = false := by
                          have h : (!ltInt (G j) (G (j - 1))) = true := by assumption
                          simpa using h
                        go_wp2
                        go_roundg (5 - (s + 1))
                        case rel =>
                          go_light
                          exact OUTR.out du _ hsu (HR.out.1.drewN _) (HR.out.2.drewN _) (by rw [HD.out]; unfold fixUp; rw [if_pos (by omega), ← HU.out, shiftUp_stop ltInt y j du (Or.inr (by rw [← HG.out, ← HG.out]; exact hl))])
                        case measure => go_light; omega
                      · have hl : ltInt (G j) (G (j - 1)) = true := by
                          have h : (!ltInt (G j) (G (j - 1))) = false := by assumption
                          simpa using h
                        go_region
                        all_goals go_wp2
                        go_roundg (y - (j + 1))
                        case rel =>
                          go_light
                          refine ⟨j + 1, swp du j (j - 1), rfl, by go_num, by omega, by omega, by rw [size_swp]; exact hsu, ?_, ?_, ?_⟩
                          · exact (HR.out.1.drewN (nq + 1)).swap' (by omega) (by omega) (HG.out _) (HG.out _)
                          · exact (HR.out.2.drewN _).swap _ _ _ _
                          · rw [← HU.out, shiftUp_go ltInt y j du (by omega) (by rw [← HG.out, ← HG.out]; exact hl)]
                        case measure => go_light; omega
                    · go_wp2
                      go_roundg (5 - (s + 1))
                      case rel =>
                        go_light
                        exact OUTR.out du _ hsu HR.out.1 HR.out.2 (by rw [HD.out]; unfold fixUp; rw [if_pos (by omega), ← HU.out, shiftUp_stop ltInt y j du (Or.inl (by omega))])
                      case measure => go_light; omega

                · exfalso; omega
        · obtain rfl : k = y := by omega
          go_wp2_with fail
          go_quiet ((go_at_call 45; exact Calls.quiet_of_same (less45 _ _ _)))
          go_wp2
          have hv : partialInsertionSort ltInt d x k = (dk, true) := by
            unfold partialInsertionSort
            rw [← HO.out, pi_true ltInt x k s i dk hs (by rw [← HS.out, scanSorted_stop ltInt dk k k (Or.inl (by omega))])]
          rw [hv]
          go_ret
          exact ⟨rfl, HR.out.1.drewN _, HR.out.2.drewN _⟩
    · obtain rfl : s = 5 := by omega
      go_wp2
      have hv : partialInsertionSort ltInt d x y = (dk, false) := by
        unfold partialInsertionSort
        rw [← HO.out, pi_end]
      rw [hv]
      go_ret
      exact ⟨rfl, HK0.out.1, HK0.out.2⟩
end Go.Proofs.Qxb6603969a
