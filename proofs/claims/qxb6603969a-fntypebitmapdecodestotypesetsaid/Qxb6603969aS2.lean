import Derived.Test.Qxb6603969aS1
namespace Go.Proofs.Qxb6603969a
open Go.RowKit Go.Sort
set_option linter.unusedVariables false

theorem ins39 (b o cap x y : Nat) (d : Array Int) (w : World) (hr : SRow w b o d) (hxy : x ≤ y) (hy : y ≤ d.size) (hsz : d.size ≤ 1048576) :
    Calls Try.prog 39 #[.slice (some ⟨b, o, none⟩) d.size cap, .int .i64 x, .int .i64 y] w fun e w' => SPost b o (insertionSort ltInt d x y) w e w' := by
  go_enter Try.func39, Try.ntmps39
  go_wp2
  go_loopg [6] (y + 1 - (x + 1)) (fun g vi wr => ∃ (i : Nat) (dk : Array Int), x < i ∧ i ≤ y + 1 ∧ g = y + 1 - i ∧ vi = .int .i64 i ∧ dk.size = d.size ∧ SRow wr b o dk ∧ Only b w wr ∧ insOuter ltInt x y i dk = insertionSort ltInt d x y)
  case atStart => exact ⟨x + 1, d, by omega, by omega, rfl, by go_num, rfl, hr, Only.refl _ _, rfl⟩
  case round =>
    obtain ⟨i, dk, hxi, hiy, rfl, rfl, hsk, hrk, hOk, hE⟩ := hrel
    have HE : Aside (insOuter ltInt x y i dk = insertionSort ltInt d x y ∧ SRow wr b o dk ∧ Only b w wr) := ⟨hE, hrk, hOk⟩
    clear hE hrk hOk hr
    go_wp2
    · have hlt : i < y := by assumption
      obtain ⟨wo, rfl⟩ : ∃ wo : World, wo = wr := ⟨_, rfl⟩
      go_loopg [7] (i - x) (fun g vj wr => ∃ (j : Nat) (dj : Array Int), x ≤ j ∧ j ≤ i ∧ g = j - x ∧ vj = .int .i64 j ∧ dj.size = d.size ∧ SRow wr b o dj ∧ Only b w wr ∧ insInner ltInt x j dj = insInner ltInt x i dk)
      case atStart => exact ⟨i, dk, by omega, by omega, rfl, rfl, hsk, HE.out.2.1, HE.out.2.2, rfl⟩
      case round =>
        obtain ⟨j, dj, hxj, hji, rfl, rfl, hsj, hrj, hOj, hI⟩ := hrel
        obtain ⟨G, hc, hf, HG⟩ := hrj.fam
        rw [hsj] at hc
        have HI : Aside (insInner ltInt x j dj = insInner ltInt x i dk ∧ SRow wr b o dj ∧ Only b w wr) := ⟨hI, hrj, hOj⟩
        clear hI hrj hOj
        have out : (j ≤ x ∨ ltInt (G j) (G (j - 1)) = false) → ∀ q, ∃ (i' : Nat) (dk' : Array Int), x < i' ∧ i' ≤ y + 1 ∧ y + 1 - (i + 1) = y + 1 - i' ∧ Value.int .i64 ((i : Int) + 1) = .int .i64 (i' : Nat) ∧ dk'.size = d.size ∧
            SRow (wr.drewN q) b o dk' ∧ Only b w (wr.drewN q) ∧ insOuter ltInt x y i' dk' = insertionSort ltInt d x y := fun hs q =>
          ⟨i + 1, dj, by omega, by omega, rfl, by go_num, hsj, HI.out.2.1.drewN q, HI.out.2.2.drewN q,
            by rw [← HE.out.1, insOuter_go _ _ _ _ _ hlt, ← HI.out.1, insInner_stop _ _ _ _ (by rw [HG.out, HG.out] at hs; exact hs)]⟩
        have OUT : Aside _ := out
        clear out
        go_wp2
        by_cases hja : x < j
        · go_quiet ((go_at_call 45; exact Calls.quiet_of_same (less45 _ _ _)))
          go_wp2
          · have hl : ltInt (G j) (G (j - 1)) = true := by assumption
            go_region
            all_goals go_wp2
            go_roundg (j - 1 - x)
            case rel =>
              go_light
              refine ⟨j - 1, swp dj j (j - 1), by omega, by omega, rfl, by congr 1; omega, by rw [size_swp]; exact hsj, ?_, ?_, ?_⟩
              · rw [HG.out, HG.out]
                exact (HI.out.2.1.drewN (nq + 1)).swap (by omega) (by omega)
              · exact (HI.out.2.2.drewN _).swap _ _ _ _
              · rw [← HI.out.1, insInner_go ltInt x j dj hja (by rw [← HG.out, ← HG.out]; exact hl)]
            case measure => go_light; omega
          · have hl : ltInt (G j) (G (j - 1)) = false := by assumption
            go_roundg (y + 1 - (i + 1))
            case rel => go_light; exact OUT.out (Or.inr hl) nq
            case measure => go_light; omega
        · go_quiet ((go_at_call 45; exact Calls.quiet_of_same (less45 _ _ _)))
          go_wp2
          go_roundg (y + 1 - (i + 1))
          case rel => go_light; exact OUT.out (Or.inl (by omega)) nq
          case measure => go_light; omega
    · have hge : ¬ i < y := by assumption
      go_end0
      exact ⟨rfl, by rw [← HE.out.1, insOuter_stop _ _ _ _ _ hge]; exact HE.out.2.1, HE.out.2.2⟩
end Go.Proofs.Qxb6603969a
