import Derived.Test.Qxb6603969aS5
import Derived.Sort.WalkC4
namespace Go.Proofs.Qxb6603969a
open Go.RowKit Go.Sort
set_option linter.unusedVariables false

def EPost (b o : Nat) (r : Nat × Array Int) (w : World) (e : Ending) (w' : World) : Prop := e = .returned (.int .i64 r.1) ∧ SRow w' b o r.2 ∧ Only b w w'

set_option maxHeartbeats 6400000 in
set_option maxRecDepth 1000000 in
theorem pe46 (b o cap x y pivot : Nat) (d : Array Int) (w : World) (hr : SRow w b o d) (hap : x ≤ pivot) (hpb : pivot < y) (hy : y ≤ d.size) (hsz : d.size ≤ 1048576) :
    Calls Try.prog 46 #[.slice (some ⟨b, o, none⟩) d.size cap, .int .i64 x, .int .i64 y, .int .i64 pivot] w fun e w' => EPost b o (partitionEqual ltInt d x y pivot) w e w' := by
  obtain ⟨G, hc, hf, HG⟩ := hr.fam
  have HR : Aside (SRow w b o d) := hr
  obtain ⟨v', hy'⟩ := cell?_setCell_some (w := w) (p := ⟨b, o + x, none⟩) (x := .int .u16 (G pivot)) (q := ⟨b, o + pivot, none⟩) (hc pivot (by omega))
  clear hr
  go_enter Try.func46, Try.ntmps46
  go_wp2
  go_region
  go_wp2
  go_loopg [9, 10] (y - 1 + 1 - (x + 1)) (fun g vi vj wr => ∃ (i j : Nat) (dk : Array Int), g = j + 1 - i ∧ vi = .int .i64 i ∧ vj = .int .i64 j ∧ x < i ∧ i ≤ j + 1 ∧ j < y ∧ dk.size = d.size ∧ SRow wr b o dk ∧ Only b w wr ∧
      partEqLoop ltInt x i j dk = partEqLoop ltInt x (x + 1) (y - 1) (swp d x pivot))
  case atStart =>
    exact ⟨x + 1, y - 1, swp d x pivot, rfl, by go_num, by go_num, by omega, by omega, by omega, size_swp _ _ _, (HR.out.swap' (i := x) (j := pivot) (by omega) (by omega) (HG.out _) (HG.out _)).drew, ((Only.refl b w).swap _ _ _ _).drew, rfl⟩
  case round =>
    obtain ⟨i, j, dk, rfl, rfl, rfl, hxi, hij, hjy, hs, hrk, hOk, heq⟩ := hrel
    clear hc hf HG hy' HR
    have HE : Aside (partEqLoop ltInt x i j dk = partEqLoop ltInt x (x + 1) (y - 1) (swp d x pivot)) := heq
    have HK : Aside (SRow wr b o dk ∧ Only b w wr) := ⟨hrk, hOk⟩
    clear heq hrk hOk
    obtain ⟨wq, hwq⟩ : ∃ wq : World, wq = wr := ⟨_, rfl⟩
    clear hwq
    go_wp2
    go_loopg [9] (j + 1 - i) (fun g vi wr => ∃ (i' : Nat), g = j + 1 - i' ∧ vi = .int .i64 i' ∧ i ≤ i' ∧ i' ≤ j + 1 ∧ SRow wr b o dk ∧ Only b w wr ∧ scanUp (fun x_1 => !ltInt dk[x]! x_1) dk j i' = scanUp (fun x_1 => !ltInt dk[x]! x_1) dk j i)
    case atStart => exact ⟨i, rfl, rfl, Nat.le_refl _, hij, HK.out.1, HK.out.2, rfl⟩
    case round =>
      obtain ⟨i', rfl, rfl, hii, hij', hr1, hO1, hsc⟩ := hrel
      obtain ⟨G, hc, hf, HG⟩ := hr1.fam
      rw [hs] at hc hf
      have HSC : Aside (scanUp (fun x_1 => !ltInt dk[x]! x_1) dk j i' = scanUp (fun x_1 => !ltInt dk[x]! x_1) dk j i) := hsc
      have HR : Aside (SRow wr b o dk ∧ Only b w wr) := ⟨hr1, hO1⟩
      clear hsc hr1 hO1 HK
      by_cases hle : i' ≤ j
      · go_wp2_with fail
        go_quiet ((go_at_call 45; exact Calls.quiet_of_same (less45 _ _ _)))
        go_wp2_with fail
        · have ht : (!ltInt (G x) (G i')) = true := by assumption
          go_wp2
          go_roundg (j + 1 - (i' + 1))
          case rel =>
            go_light
            exact ⟨i' + 1, rfl, by go_num, by omega, by omega, HR.out.1.drewN _, HR.out.2.drewN _, (scanUp_go (fun x_1 => !ltInt dk[x]! x_1) dk j i' hle (by rw [HG.out, HG.out] at ht; exact ht)).symm.trans HSC.out⟩
          case measure => go_light; omega
        · have ht : (!ltInt (G x) (G i')) = false := by assumption
          have hi2 : Aside (i' = scanUp (fun x_1 => !ltInt dk[x]! x_1) dk j i) := (scanUp_end (fun x_1 => !ltInt dk[x]! x_1) dk j i' (Or.inr (by rw [HG.out, HG.out] at ht; exact ht))).symm.trans HSC.out
          have HU : Aside (SRow (wr.drewN nq) b o dk ∧ Only b w (wr.drewN nq)) := ⟨HR.out.1.drewN _, HR.out.2.drewN _⟩
          clear ht HSC HR hc hf HG
          generalize wr.drewN nq = wr at HU ⊢
          go_wp2
          obtain ⟨wd, hwd⟩ : ∃ wd : World, wd = wr := ⟨_, rfl⟩
          clear hwd
          go_loopg [10] j (fun g vj wr => ∃ (j' : Nat), g = j' + 0 ∧ vj = .int .i64 j' ∧ j' ≤ j ∧ i' ≤ j' + 1 ∧ SRow wr b o dk ∧ Only b w wr ∧ scanDown (fun x_1 => ltInt dk[x]! x_1) dk i' j' = scanDown (fun x_1 => ltInt dk[x]! x_1) dk i' j)
          case atStart => exact ⟨j, rfl, rfl, Nat.le_refl _, hij', HU.out.1, HU.out.2, rfl⟩
          case round =>
            obtain ⟨j', hgj, rfl, hjj, hij2, hr2, hO2, hsd⟩ := hrel
            obtain ⟨G, hc, hf, HG⟩ := hr2.fam
            rw [hs] at hc hf
            have HSD : Aside (scanDown (fun x_1 => ltInt dk[x]! x_1) dk i' j' = scanDown (fun x_1 => ltInt dk[x]! x_1) dk i' j) := hsd
            have HR : Aside (SRow wr b o dk ∧ Only b w wr) := ⟨hr2, hO2⟩
            clear hsd hr2 hO2 HU
            by_cases hle2 : i' ≤ j'
            · go_wp2_with fail
              go_quiet ((go_at_call 45; exact Calls.quiet_of_same (less45 _ _ _)))
              go_wp2_with fail
              · have ht : ltInt (G x) (G j') = true := by assumption
                go_wp2
                go_roundg (j' - 1)
                case rel =>
                  go_light
                  exact ⟨j' - 1, rfl, by go_num, by omega, by omega, HR.out.1.drewN _, HR.out.2.drewN _, (scanDown_go (fun x_1 => ltInt dk[x]! x_1) dk i' j' hle2 (by omega) (by rw [HG.out, HG.out] at ht; exact ht)).symm.trans HSD.out⟩
                case measure => go_light; omega
              · have ht : ltInt (G x) (G j') = false := by assumption
                have hj2 : Aside (j' = scanDown (fun x_1 => ltInt dk[x]! x_1) dk i' j) := (scanDown_end (fun x_1 => ltInt dk[x]! x_1) dk i' j' (Or.inr (by rw [HG.out, HG.out] at ht; exact ht))).symm.trans HSD.out
                have hlt3 : i' < j' := scans_lt ltInt x i j dk (by omega) hi2.out hj2.out hle2
                clear ht HSD
                have hc3 : ∀ t, t < d.size → (wr.drewN nq).cell? ⟨b, o + t, none⟩ = some (.int .u16 (G t)) := hc
                have hf3 : ∀ t, t < d.size → (wr.drewN nq).frozen? ⟨b, o + t, none⟩ = false := hf
                have H3 : Aside (SRow (wr.drewN nq) b o dk ∧ Only b w (wr.drewN nq)) := ⟨HR.out.1.drewN _, HR.out.2.drewN _⟩
                clear hc hf HR
                generalize wr.drewN nq = wr at hc3 hf3 H3 ⊢
                obtain ⟨v3, hy3⟩ := cell?_setCell_some (w := wr) (p := ⟨b, o + i', none⟩) (x := .int .u16 (G j')) (q := ⟨b, o + j', none⟩) (hc3 j' (by omega))
                go_wp2
                go_region
                all_goals go_wp2
                go_roundg (j' - 1 + 1 - (i' + 1))
                case rel =>
                  go_light
                  exact ⟨i' + 1, j' - 1, swp dk i' j', rfl, by go_num, by go_num, by omega, by omega, by omega, by rw [size_swp]; exact hs, (H3.out.1.swap' (i := i') (j := j') (by omega) (by omega) (HG.out _) (HG.out _)).drew, (H3.out.2.swap _ _ _ _).drew, by rw [← HE.out]; exact (partEq_go ltInt x i j dk hi2.out hj2.out (by omega)).symm⟩
                case measure => go_light; omega
            · go_wp2_with fail
              go_quiet ((go_at_call 45; exact Calls.quiet_of_same (less45 _ _ _)))
              have hj2 : Aside (j' = scanDown (fun x_1 => ltInt dk[x]! x_1) dk i' j) := (scanDown_end (fun x_1 => ltInt dk[x]! x_1) dk i' j' (Or.inl hle2)).symm.trans HSD.out
              clear HSD
              have hc3 : ∀ t, t < d.size → (wr.drewN nq).cell? ⟨b, o + t, none⟩ = some (.int .u16 (G t)) := hc
              have hf3 : ∀ t, t < d.size → (wr.drewN nq).frozen? ⟨b, o + t, none⟩ = false := hf
              have H3 : Aside (SRow (wr.drewN nq) b o dk ∧ Only b w (wr.drewN nq)) := ⟨HR.out.1.drewN _, HR.out.2.drewN _⟩
              clear hc hf HR
              generalize wr.drewN nq = wr at hc3 hf3 H3 ⊢
              go_wp2
              go_ret
              have e := partEq_break ltInt x i j dk hi2.out hj2.out (by omega)
              refine ⟨?_, ?_, H3.out.2⟩
              · unfold partitionEqual; rw [← HE.out, e]; rfl
              · unfold partitionEqual; rw [← HE.out, e]; exact H3.out.1
      · go_wp2_with fail
        go_quiet ((go_at_call 45; exact Calls.quiet_of_same (less45 _ _ _)))
        have hi2 : Aside (i' = scanUp (fun x_1 => !ltInt dk[x]! x_1) dk j i) := (scanUp_end (fun x_1 => !ltInt dk[x]! x_1) dk j i' (Or.inl hle)).symm.trans HSC.out
        have HU : Aside (SRow (wr.drewN nq) b o dk ∧ Only b w (wr.drewN nq)) := ⟨HR.out.1.drewN _, HR.out.2.drewN _⟩
        clear HSC HR hc hf HG
        generalize wr.drewN nq = wr at HU ⊢
        go_wp2
        obtain ⟨wd, hwd⟩ : ∃ wd : World, wd = wr := ⟨_, rfl⟩
        clear hwd
        go_loopg [10] j (fun g vj wr => ∃ (j' : Nat), g = j' + 0 ∧ vj = .int .i64 j' ∧ j' ≤ j ∧ i' ≤ j' + 1 ∧ SRow wr b o dk ∧ Only b w wr ∧ scanDown (fun x_1 => ltInt dk[x]! x_1) dk i' j' = scanDown (fun x_1 => ltInt dk[x]! x_1) dk i' j)
        case atStart => exact ⟨j, rfl, rfl, Nat.le_refl _, hij', HU.out.1, HU.out.2, rfl⟩
        case round =>
          obtain ⟨j', hgj, rfl, hjj, hij2, hr2, hO2, hsd⟩ := hrel
          obtain ⟨G, hc, hf, HG⟩ := hr2.fam
          rw [hs] at hc hf
          have HSD : Aside (scanDown (fun x_1 => ltInt dk[x]! x_1) dk i' j' = scanDown (fun x_1 => ltInt dk[x]! x_1) dk i' j) := hsd
          have HR : Aside (SRow wr b o dk ∧ Only b w wr) := ⟨hr2, hO2⟩
          clear hsd hr2 hO2 HU
          by_cases hle2 : i' ≤ j'
          · exfalso; omega
          · go_wp2_with fail
            go_quiet ((go_at_call 45; exact Calls.quiet_of_same (less45 _ _ _)))
            have hj2 : Aside (j' = scanDown (fun x_1 => ltInt dk[x]! x_1) dk i' j) := (scanDown_end (fun x_1 => ltInt dk[x]! x_1) dk i' j' (Or.inl hle2)).symm.trans HSD.out
            clear HSD
            have hc3 : ∀ t, t < d.size → (wr.drewN nq).cell? ⟨b, o + t, none⟩ = some (.int .u16 (G t)) := hc
            have hf3 : ∀ t, t < d.size → (wr.drewN nq).frozen? ⟨b, o + t, none⟩ = false := hf
            have H3 : Aside (SRow (wr.drewN nq) b o dk ∧ Only b w (wr.drewN nq)) := ⟨HR.out.1.drewN _, HR.out.2.drewN _⟩
            clear hc hf HR
            generalize wr.drewN nq = wr at hc3 hf3 H3 ⊢
            go_wp2
            go_ret
            have e := partEq_break ltInt x i j dk hi2.out hj2.out (by omega)
            refine ⟨?_, ?_, H3.out.2⟩
            · unfold partitionEqual; rw [← HE.out, e]; rfl
            · unfold partitionEqual; rw [← HE.out, e]; exact H3.out.1
end Go.Proofs.Qxb6603969a
