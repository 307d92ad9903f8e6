import Derived.Test.Qxb6603969aS3
namespace Go.Proofs.Qxb6603969a
open Go.RowKit Go.Sort
set_option linter.unusedVariables false

theorem SRow.swap' {w : World} {b o : Nat} {d : Array Int} (h : SRow w b o d) {i j : Nat} (hi : i < d.size) (hj : j < d.size) {u v : Int} (hu : u = d[j]!) (hv : v = d[i]!) :
    SRow ((w.setCell ⟨b, o + i, none⟩ (.int .u16 u)).setCell ⟨b, o + j, none⟩ (.int .u16 v)) b o (swp d i j) := by
  subst hu; subst hv; exact h.swap hi hj

set_option maxHeartbeats 3200000 in
set_option maxRecDepth 1000000 in
theorem heap40 (b o cap x y : Nat) (d : Array Int) (w : World) (hr : SRow w b o d) (hxy : x ≤ y) (hy : y ≤ d.size) (hsz : d.size ≤ 1048576) :
    Calls Try.prog 40 #[.slice (some ⟨b, o, none⟩) d.size cap, .int .i64 x, .int .i64 y] w fun e w' => SPost b o (heapSort ltInt d x y) w e w' := by
  have ecast : ((y - x : Nat) : Int) = (y : Int) - (x : Int) := by omega
  go_enter Try.func40, Try.ntmps40
  go_wp2
  go_loopg [9] ((y - x - 1) / 2 + 1) (fun k s9 wr => s9 = .int .i64 ((k : Int) - 1) ∧ k ≤ (y - x - 1) / 2 + 1 ∧ ∃ (dk : Array Int), dk.size = d.size ∧ SRow wr b o dk ∧ Only b w wr ∧
    heapBuild ltInt (y - x) x k dk = heapBuild ltInt (y - x) x ((y - x - 1) / 2 + 1) d)
  case atStart => exact ⟨by rw [half_start hxy], Nat.le_refl _, d, rfl, hr, Only.refl _ _, rfl⟩
  case round =>
    obtain ⟨rfl, hkk, dk, hds, hrk, hOk, heq⟩ := hrel
    have HE : Aside (heapBuild ltInt (y - x) x gk dk = heapBuild ltInt (y - x) x ((y - x - 1) / 2 + 1) d ∧ SRow wr b o dk ∧ Only b w wr) := ⟨heq, hrk, hOk⟩
    clear heq hrk hOk hr
    cases gk with
    | zero =>
      clear hkk
      go_wp2
      obtain ⟨wo, rfl⟩ : ∃ wo : World, wo = wr := ⟨_, rfl⟩
      go_loopg [10] (y - x) (fun k s10 wr => s10 = .int .i64 ((k : Int) - 1) ∧ k ≤ y - x ∧ ∃ (dj : Array Int), dj.size = d.size ∧ SRow wr b o dj ∧ Only b w wr ∧ heapPop ltInt x k dj = heapPop ltInt x (y - x) dk)
      case atStart => exact ⟨by rw [ecast], Nat.le_refl _, dk, hds, HE.out.2.1, HE.out.2.2, rfl⟩
      case round =>
        obtain ⟨rfl, hkk, dj, hdj, hrj, hOj, heq2⟩ := hrel
        cases gk with
        | zero =>
          go_wp2
          go_end0
          have e : dj = heapSort ltInt d x y := by rw [heapSort, ← HE.out.1, ← show heapPop ltInt x 0 dj = dj from rfl, heq2]; rfl
          exact ⟨rfl, by rw [← e]; exact hrj, hOj⟩
        | succ k =>
          obtain ⟨G, hc, hf, HG⟩ := hrj.fam
          rw [hdj] at hc hf
          have HJ : Aside (SRow wr b o dj ∧ Only b w wr) := ⟨hrj, hOj⟩
          have E2 : Aside (heapPop ltInt x (k + 1) dj = heapPop ltInt x (y - x) dk) := heq2
          clear hrj hOj heq2
          rcases Nat.eq_zero_or_pos k with hk0 | hkp
          · subst hk0
            go_wp2_with fail
            go_region
            go_wp2_with fail
            have hS := (HJ.out.1.swap' (i := x) (j := x) (by omega) (by omega) (HG.out x) (HG.out x)).drew
            have hO := (HJ.out.2.swap (o + x) (o + x) (.int .u16 (G x)) (.int .u16 (G x))).drew
            refine (sift50 b o cap 0 0 x d.size _ _ (by rw [size_swp]; exact hdj) hS (Nat.le_refl _) (by rw [size_swp]; omega) (by rw [size_swp]; omega)).mono ?_
            rintro e w1 ⟨rfl, hs1, ho1⟩
            have J1 : Aside (SRow w1 b o (siftDown ltInt 0 x 0 (swp dj x x)) ∧ Only b w w1) := ⟨hs1, hO.trans ho1⟩
            clear hs1 ho1 hS hO
            go_wp2
            go_roundg 0
            case measure => omega
            case rel =>
              go_light
              exact ⟨by simp, by omega, siftDown ltInt 0 x 0 (swp dj x (x + 0)), by rw [size_siftDown ltInt _ _ _ _ _ (Nat.le_refl _), size_swp]; exact hdj, J1.out.1, J1.out.2, E2.out⟩
          · go_wp2_with fail
            go_region
            go_wp2_with fail
            have hS := (HJ.out.1.swap' (i := x) (j := x + k) (by omega) (by omega) (HG.out (x + k)) (HG.out x)).drew
            have hO := (HJ.out.2.swap (o + x) (o + (x + k)) (.int .u16 (G (x + k))) (.int .u16 (G x))).drew
            refine (sift50 b o cap 0 k x d.size _ _ (by rw [size_swp]; exact hdj) hS (by omega) (by rw [size_swp]; omega) (by rw [size_swp]; omega)).mono ?_
            rintro e w1 ⟨rfl, hs1, ho1⟩
            have J1 : Aside (SRow w1 b o (siftDown ltInt k x 0 (swp dj x (x + k))) ∧ Only b w w1) := ⟨hs1, hO.trans ho1⟩
            clear hs1 ho1 hS hO
            go_wp2
            go_roundg k
            case measure => omega
            case rel =>
              go_light
              exact ⟨by simp, by omega, siftDown ltInt k x 0 (swp dj x (x + k)), by rw [size_siftDown ltInt _ _ _ _ _ (Nat.le_refl _), size_swp]; exact hdj, J1.out.1, J1.out.2, E2.out⟩
    | succ k =>
      have hcall := sift50 b o cap k (y - x) x d.size dk wr hds HE.out.2.1 (by omega) (by omega) (by omega)
      rw [ecast] at hcall
      go_wp2_with (go_at_call 50; refine hcall.mono ?_; rintro e w1 ⟨rfl, hs1, ho1⟩)
      have J1 : Aside (SRow w1 b o (siftDown ltInt (y - x) x k dk) ∧ Only b w w1) := ⟨hs1, HE.out.2.2.trans ho1⟩
      clear hs1 ho1 hcall
      go_roundg k
      case measure => omega
      case rel =>
        go_light
        exact ⟨by simp, by omega, siftDown ltInt (y - x) x k dk, by rw [size_siftDown ltInt _ _ _ _ _ (Nat.le_refl _)]; exact hds, J1.out.1, J1.out.2, HE.out.1⟩

set_option maxHeartbeats 1600000 in
set_option maxRecDepth 1000000 in
theorem rev43 (b o cap x y : Nat) (d : Array Int) (w : World) (hr : SRow w b o d) (hxy : x ≤ y) (hy : y ≤ d.size) (hsz : d.size ≤ 1048576) :
    Calls Try.prog 43 #[.slice (some ⟨b, o, none⟩) d.size cap, .int .i64 x, .int .i64 y] w fun e w' => SPost b o (reverseRange d x y) w e w' := by
  go_enter Try.func43, Try.ntmps43
  go_wp2
  go_loopg [6, 7] (y - x) (fun k s6 s7 wr => ∃ (i jn : Nat) (jz : Int) (dk : Array Int), s6 = .int .i64 i ∧ s7 = .int .i64 jz ∧ ((i : Int) < jz → jz = jn ∧ jn < d.size) ∧ (¬ (i : Int) < jz → ¬ i < jn) ∧ jn - i ≤ k ∧
    dk.size = d.size ∧ SRow wr b o dk ∧ Only b w wr ∧ reverseLoop i jn dk = reverseLoop x (y - 1) d)
  case atStart => exact ⟨x, y - 1, (y : Int) - 1, d, rfl, rfl, fun h => ⟨by omega, by omega⟩, fun h => by omega, by omega, rfl, hr, Only.refl _ _, rfl⟩
  case round =>
    obtain ⟨i, jn, jz, dk, rfl, rfl, h1, h2, hk, hds, hrk, hOk, heq⟩ := hrel
    by_cases hlt : (i : Int) < jz
    · obtain ⟨rfl, hjn⟩ := h1 hlt
      have hij : i < jn := by omega
      obtain ⟨G, hc, hf, HG⟩ := hrk.fam
      rw [hds] at hc hf
      have HE : Aside (reverseLoop i jn dk = reverseLoop x (y - 1) d ∧ SRow wr b o dk ∧ Only b w wr) := ⟨heq, hrk, hOk⟩
      clear heq hrk hOk hr h1 h2
      go_wp2_with fail
      go_region
      go_wp2
      go_roundg (jn - 1 - (i + 1))
      case measure => omega
      case rel =>
        go_light
        have heq := HE.out.1
        rw [reverseLoop, if_pos hij] at heq
        exact ⟨i + 1, jn - 1, (jn : Int) - 1, swp dk i jn, by simp, rfl, fun h => ⟨by omega, by omega⟩, fun h => by omega, Nat.le_refl _, by rw [size_swp]; exact hds,
          (HE.out.2.1.swap' (i := i) (j := jn) (by omega) (by omega) (HG.out jn) (HG.out i)).drew, (HE.out.2.2.swap _ _ _ _).drew, heq⟩
    · have hnot := h2 hlt
      go_wp2
      go_end0
      rw [reverseLoop, if_neg hnot] at heq
      exact ⟨rfl, by rw [reverseRange, ← heq]; exact hrk, hOk⟩
end Go.Proofs.Qxb6603969a
