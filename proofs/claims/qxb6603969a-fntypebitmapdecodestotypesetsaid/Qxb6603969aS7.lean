import Derived.Test.Qxb6603969aS6
import Derived.Sort.WalkC4
namespace Go.Proofs.Qxb6603969a
open Go.RowKit Go.Sort
set_option linter.unusedVariables false

def QPost (b o : Nat) (r : Nat × Bool × Array Int) (w : World) (e : Ending) (w' : World) : Prop := e = .returned (.tuple #[.int .i64 r.1, .bool r.2.1]) ∧ SRow w' b o r.2.2 ∧ Only b w w'

set_option maxHeartbeats 12800000 in
set_option maxRecDepth 1000000 in
theorem pt47 (b o cap x y pivot : Nat) (d : Array Int) (w : World) (hr : SRow w b o d) (hap : x ≤ pivot) (hpb : pivot < y) (hy : y ≤ d.size) (hsz : d.size ≤ 1048576) :
    Calls Try.prog 47 #[.slice (some ⟨b, o, none⟩) d.size cap, .int .i64 x, .int .i64 y, .int .i64 pivot] w fun e w' => QPost b o (partition ltInt d x y pivot) w e w' := by
  obtain ⟨G, hc, hf, HG⟩ := hr.fam
  have HR : Aside (SRow w b o d) := hr
  obtain ⟨v', hy'⟩ := cell?_setCell_some (w := w) (p := ⟨b, o + x, none⟩) (x := .int .u16 (G pivot)) (q := ⟨b, o + pivot, none⟩) (hc pivot (by omega))
  clear hr
  go_enter Try.func47, Try.ntmps47
  go_wp2
  go_region
  go_wp2
  have HK : Aside (SRow (((w.setCell ⟨b, o + x, none⟩ (.int .u16 (G pivot))).setCell ⟨b, o + pivot, none⟩ (.int .u16 (G x))).drew) b o (swp d x pivot) ∧ Only b w (((w.setCell ⟨b, o + x, none⟩ (.int .u16 (G pivot))).setCell ⟨b, o + pivot, none⟩ (.int .u16 (G x))).drew)) :=
    ⟨(HR.out.swap' (i := x) (j := pivot) (by omega) (by omega) (HG.out _) (HG.out _)).drew, ((Only.refl b w).swap _ _ _ _).drew⟩
  generalize ((w.setCell ⟨b, o + x, none⟩ (.int .u16 (G pivot))).setCell ⟨b, o + pivot, none⟩ (.int .u16 (G x))).drew = wr at HK ⊢
  clear hc hf HG hy' HR
  obtain ⟨dk, hdk⟩ : ∃ dk, dk = swp d x pivot := ⟨_, rfl⟩
  rw [← hdk] at HK
  have hs : dk.size = d.size := by rw [hdk, size_swp]
  obtain ⟨i, hi⟩ : ∃ i, i = x + 1 := ⟨_, rfl⟩
  obtain ⟨j, hj⟩ : ∃ j, j = y - 1 := ⟨_, rfl⟩
  have e1 : ((x : Int) + 1) = (i : Int) := by omega
  have e2 : ((y : Int) - 1) = (j : Int) := by omega
  rw [e1, e2]
  clear e1 e2
  have hxi : x < i := by omega
  have hij : i ≤ j + 1 := by omega
  have hjy : j < y := by omega
  have HI : Aside (i = x + 1 ∧ j = y - 1 ∧ dk = swp d x pivot) := ⟨hi, hj, hdk⟩
  clear hi hj hdk
  obtain ⟨wq, hwq⟩ : ∃ wq : World, wq = wr := ⟨_, rfl⟩
  clear hwq
  go_loopg [10] (j + 1 - i) (fun g vi wr => ∃ (i' : Nat), g = j + 1 - i' ∧ vi = .int .i64 i' ∧ i ≤ i' ∧ i' ≤ j + 1 ∧ SRow wr b o dk ∧ Only b w wr ∧ scanUp (fun x_1 => ltInt x_1 dk[x]!) dk j i' = scanUp (fun x_1 => ltInt x_1 dk[x]!) dk j i)
  case atStart => exact ⟨i, rfl, rfl, Nat.le_refl _, hij, HK.out.1, HK.out.2, rfl⟩
  case round =>
    obtain ⟨i', rfl, rfl, hii, hij', hr1, hO1, hsc⟩ := hrel
    obtain ⟨G, hc, hf, HG⟩ := hr1.fam
    rw [hs] at hc hf
    have HSC : Aside (scanUp (fun x_1 => ltInt x_1 dk[x]!) dk j i' = scanUp (fun x_1 => ltInt x_1 dk[x]!) dk j i) := hsc
    have HR : Aside (SRow wr b o dk ∧ Only b w wr) := ⟨hr1, hO1⟩
    clear hsc hr1 hO1 HK
    by_cases hle : i' ≤ j
    · go_wp2_with fail
      go_quiet ((go_at_call 45; exact Calls.quiet_of_same (less45 _ _ _)))
      go_wp2_with fail
      · have ht : ltInt (G i') (G x) = true := by assumption
        go_wp2
        go_roundg (j + 1 - (i' + 1))
        case rel =>
          go_light
          exact ⟨i' + 1, rfl, by go_num, by omega, by omega, HR.out.1.drewN _, HR.out.2.drewN _, (scanUp_go (fun x_1 => ltInt x_1 dk[x]!) dk j i' hle (by rw [HG.out, HG.out] at ht; exact ht)).symm.trans HSC.out⟩
        case measure => go_light; omega
      · have ht : ltInt (G i') (G x) = false := by assumption
        have hi2 : Aside (i' = scanUp (fun x_1 => ltInt x_1 dk[x]!) dk j i) := (scanUp_end (fun x_1 => ltInt x_1 dk[x]!) dk j i' (Or.inr (by rw [HG.out, HG.out] at ht; exact ht))).symm.trans HSC.out
        have HU : Aside (SRow (wr.drewN nq) b o dk ∧ Only b w (wr.drewN nq)) := ⟨HR.out.1.drewN _, HR.out.2.drewN _⟩
        clear ht HSC HR hc hf HG
        generalize wr.drewN nq = wr at HU ⊢
        go_wp2
        obtain ⟨wd, hwd⟩ : ∃ wd : World, wd = wr := ⟨_, rfl⟩
        clear hwd
        go_loopg [11] j (fun g vj wr => ∃ (j' : Nat), g = j' + 0 ∧ vj = .int .i64 j' ∧ j' ≤ j ∧ i' ≤ j' + 1 ∧ SRow wr b o dk ∧ Only b w wr ∧ scanDown (fun x_1 => !ltInt x_1 dk[x]!) dk i' j' = scanDown (fun x_1 => !ltInt x_1 dk[x]!) dk i' j)
        case atStart => exact ⟨j, rfl, rfl, Nat.le_refl _, hij', HU.out.1, HU.out.2, rfl⟩
        case round =>
          obtain ⟨j', hgj, rfl, hjj, hij2, hr2, hO2, hsd⟩ := hrel
          obtain ⟨G, hc, hf, HG⟩ := hr2.fam
          rw [hs] at hc hf
          have HSD : Aside (scanDown (fun x_1 => !ltInt x_1 dk[x]!) dk i' j' = scanDown (fun x_1 => !ltInt x_1 dk[x]!) dk i' j) := hsd
          have HR : Aside (SRow wr b o dk ∧ Only b w wr) := ⟨hr2, hO2⟩
          clear hsd hr2 hO2 HU
          by_cases hle2 : i' ≤ j'
          · go_wp2_with fail
            go_quiet ((go_at_call 45; exact Calls.quiet_of_same (less45 _ _ _)))
            go_wp2_with fail
            · have ht : (!ltInt (G j') (G x)) = true := by assumption
              go_wp2
              go_roundg (j' - 1)
              case rel =>
                go_light
                exact ⟨j' - 1, rfl, by go_num, by omega, by omega, HR.out.1.drewN _, HR.out.2.drewN _, (scanDown_go (fun x_1 => !ltInt x_1 dk[x]!) dk i' j' hle2 (by omega) (by rw [HG.out, HG.out] at ht; exact ht)).symm.trans HSD.out⟩
              case measure => go_light; omega
            · have ht : (!ltInt (G j') (G x)) = false := by assumption
              have hj2 : Aside (j' = scanDown (fun x_1 => !ltInt x_1 dk[x]!) dk i' j) := (scanDown_end (fun x_1 => !ltInt x_1 dk[x]!) dk i' j' (Or.inr (by rw [HG.out, HG.out] at ht; exact ht))).symm.trans HSD.out
              have hlt3 : i' < j' := part_scans_lt ltInt x i j dk (by omega) hi2.out hj2.out hle2
              clear ht HSD
              have hc3 : ∀ t, t < d.size → (wr.drewN nq).cell? ⟨b, o + t, none⟩ = some (.int .u16 (G t)) := hc
              have hf3 : ∀ t, t < d.size → (wr.drewN nq).frozen? ⟨b, o + t, none⟩ = false := hf
              have H3 : Aside (SRow (wr.drewN nq) b o dk ∧ Only b w (wr.drewN nq)) := ⟨HR.out.1.drewN _, HR.out.2.drewN _⟩
              clear hc hf HR
              generalize wr.drewN nq = wr at hc3 hf3 H3 ⊢
              obtain ⟨v3, hy3⟩ := cell?_setCell_some (w := wr) (p := ⟨b, o + i', none⟩) (x := .int .u16 (G j')) (q := ⟨b, o + j', none⟩) (hc3 j' (by omega))
              have hp : partition ltInt d x y pivot = ((partLoop ltInt x (i' + 1) (j' - 1) (swp dk i' j')).1, false, swp (partLoop ltInt x (i' + 1) (j' - 1) (swp dk i' j')).2 (partLoop ltInt x (i' + 1) (j' - 1) (swp dk i' j')).1 x) :=
                part_first_go ltInt d x y pivot HI.out.1 HI.out.2.1 HI.out.2.2 hi2.out hj2.out (by omega)
              have HP0 : Aside _ := hp
              clear hp
              go_wp2
              go_region
              go_wp2
              have HN : Aside (SRow (((wr.setCell ⟨b, o + i', none⟩ (.int .u16 (G j'))).setCell ⟨b, o + j', none⟩ (.int .u16 (G i'))).drew) b o (swp dk i' j') ∧ Only b w (((wr.setCell ⟨b, o + i', none⟩ (.int .u16 (G j'))).setCell ⟨b, o + j', none⟩ (.int .u16 (G i'))).drew)) :=
                ⟨(H3.out.1.swap' (i := i') (j := j') (by omega) (by omega) (HG.out _) (HG.out _)).drew, (H3.out.2.swap _ _ _ _).drew⟩
              generalize ((wr.setCell ⟨b, o + i', none⟩ (.int .u16 (G j'))).setCell ⟨b, o + j', none⟩ (.int .u16 (G i'))).drew = wr at HN ⊢
              obtain ⟨r0, hr0⟩ : ∃ r0, r0 = partLoop ltInt x (i' + 1) (j' - 1) (swp dk i' j') := ⟨_, rfl⟩
              have HP : Aside (partition ltInt d x y pivot = (r0.1, false, swp r0.2 r0.1 x)) := by rw [hr0]; exact HP0.out
              obtain ⟨ds, hds0⟩ : ∃ ds, ds = swp dk i' j' := ⟨_, rfl⟩
              have hds : ds.size = d.size := by rw [hds0, size_swp]; exact hs
              rw [← hds0] at HN hr0
              have HR0 : Aside (r0 = partLoop ltInt x (i' + 1) (j' - 1) ds) := hr0
              clear hr0 hds0 HP0 H3 hc3 hf3 hy3 hj2 hi2 HG HI
              obtain ⟨i0, hi0⟩ : ∃ i0, i0 = i' + 1 := ⟨_, rfl⟩
              obtain ⟨j0, hj0⟩ : ∃ j0, j0 = j' - 1 := ⟨_, rfl⟩
              have e1 : ((i' : Int) + 1) = (i0 : Int) := by omega
              have e2 : ((j' : Int) - 1) = (j0 : Int) := by omega
              rw [e1, e2]
              clear e1 e2
              rw [← hi0, ← hj0] at HR0
              have hb1 : x < i0 ∧ i0 ≤ j0 + 1 ∧ j0 < y := ⟨by omega, by omega, by omega⟩
              clear hi0 hj0 hlt3 hle2 hij2 hjj hle hij' hii hij hjy hxi
              obtain ⟨wq, hwq⟩ : ∃ wq : World, wq = wr := ⟨_, rfl⟩
              clear hwq
              go_loopg [10, 11] (j0 + 1 - i0) (fun g vi vj wr => ∃ (i j : Nat) (dk : Array Int), g = j + 1 - i ∧ vi = .int .i64 i ∧ vj = .int .i64 j ∧ x < i ∧ i ≤ j + 1 ∧ j < y ∧ dk.size = d.size ∧ SRow wr b o dk ∧ Only b w wr ∧
                  partLoop ltInt x i j dk = r0)
              case atStart => exact ⟨i0, j0, ds, rfl, rfl, rfl, hb1.1, hb1.2.1, hb1.2.2, hds, HN.out.1, HN.out.2, HR0.out.symm⟩
              case round =>
                clear HR0 HN hb1 hds hs
                obtain ⟨i, j, dk, rfl, rfl, rfl, hxi, hij, hjy, hs, hrk, hOk, heq⟩ := hrel
                have HE : Aside (partLoop ltInt x i j dk = r0) := heq
                have HK : Aside (SRow wr b o dk ∧ Only b w wr) := ⟨hrk, hOk⟩
                clear heq hrk hOk
                obtain ⟨wq2, hwq2⟩ : ∃ wq : World, wq = wr := ⟨_, rfl⟩
                clear hwq2
                go_wp2
                go_loopg [10] (j + 1 - i) (fun g vi wr => ∃ (i' : Nat), g = j + 1 - i' ∧ vi = .int .i64 i' ∧ i ≤ i' ∧ i' ≤ j + 1 ∧ SRow wr b o dk ∧ Only b w wr ∧ scanUp (fun x_1 => ltInt x_1 dk[x]!) dk j i' = scanUp (fun x_1 => ltInt x_1 dk[x]!) dk j i)
                case atStart => exact ⟨i, rfl, rfl, Nat.le_refl _, hij, HK.out.1, HK.out.2, rfl⟩
                case round =>
                  obtain ⟨i', rfl, rfl, hii, hij', hr1, hO1, hsc⟩ := hrel
                  obtain ⟨G, hc, hf, HG⟩ := hr1.fam
                  rw [hs] at hc hf
                  have HSC : Aside (scanUp (fun x_1 => ltInt x_1 dk[x]!) dk j i' = scanUp (fun x_1 => ltInt x_1 dk[x]!) dk j i) := hsc
                  have HR : Aside (SRow wr b o dk ∧ Only b w wr) := ⟨hr1, hO1⟩
                  clear hsc hr1 hO1 HK
                  by_cases hle : i' ≤ j
                  · go_wp2_with fail
                    go_quiet ((go_at_call 45; exact Calls.quiet_of_same (less45 _ _ _)))
                    go_wp2_with fail
                    · have ht : ltInt (G i') (G x) = true := by assumption
                      go_wp2
                      go_roundg (j + 1 - (i' + 1))
                      case rel =>
                        go_light
                        exact ⟨i' + 1, rfl, by go_num, by omega, by omega, HR.out.1.drewN _, HR.out.2.drewN _, (scanUp_go (fun x_1 => ltInt x_1 dk[x]!) dk j i' hle (by rw [HG.out, HG.out] at ht; exact ht)).symm.trans HSC.out⟩
                      case measure => go_light; omega
                    · have ht : ltInt (G i') (G x) = false := by assumption
                      have hi2 : Aside (i' = scanUp (fun x_1 => ltInt x_1 dk[x]!) dk j i) := (scanUp_end (fun x_1 => ltInt x_1 dk[x]!) dk j i' (Or.inr (by rw [HG.out, HG.out] at ht; exact ht))).symm.trans HSC.out
                      have HU : Aside (SRow (wr.drewN nq) b o dk ∧ Only b w (wr.drewN nq)) := ⟨HR.out.1.drewN _, HR.out.2.drewN _⟩
                      clear ht HSC HR hc hf HG
                      generalize wr.drewN nq = wr at HU ⊢
                      go_wp2
                      obtain ⟨wd, hwd⟩ : ∃ wd : World, wd = wr := ⟨_, rfl⟩
                      clear hwd
                      go_loopg [11] j (fun g vj wr => ∃ (j' : Nat), g = j' + 0 ∧ vj = .int .i64 j' ∧ j' ≤ j ∧ i' ≤ j' + 1 ∧ SRow wr b o dk ∧ Only b w wr ∧ scanDown (fun x_1 => !ltInt x_1 dk[x]!) dk i' j' = scanDown (fun x_1 => !ltInt x_1 dk[x]!) dk i' j)
                      case atStart => exact ⟨j, rfl, rfl, Nat.le_refl _, hij', HU.out.1, HU.out.2, rfl⟩
                      case round =>
                        obtain ⟨j', hgj, rfl, hjj, hij2, hr2, hO2, hsd⟩ := hrel
                        obtain ⟨G, hc, hf, HG⟩ := hr2.fam
                        rw [hs] at hc hf
                        have HSD : Aside (scanDown (fun x_1 => !ltInt x_1 dk[x]!) dk i' j' = scanDown (fun x_1 => !ltInt x_1 dk[x]!) dk i' j) := hsd
                        have HR : Aside (SRow wr b o dk ∧ Only b w wr) := ⟨hr2, hO2⟩
                        clear hsd hr2 hO2 HU
                        by_cases hle2 : i' ≤ j'
                        · go_wp2_with fail
                          go_quiet ((go_at_call 45; exact Calls.quiet_of_same (less45 _ _ _)))
                          go_wp2_with fail
                          · have ht : (!ltInt (G j') (G x)) = true := by assumption
                            go_wp2
                            go_roundg (j' - 1)
                            case rel =>
                              go_light
                              exact ⟨j' - 1, rfl, by go_num, by omega, by omega, HR.out.1.drewN _, HR.out.2.drewN _, (scanDown_go (fun x_1 => !ltInt x_1 dk[x]!) dk i' j' hle2 (by omega) (by rw [HG.out, HG.out] at ht; exact ht)).symm.trans HSD.out⟩
                            case measure => go_light; omega
                          · have ht : (!ltInt (G j') (G x)) = false := by assumption
                            have hj2 : Aside (j' = scanDown (fun x_1 => !ltInt x_1 dk[x]!) dk i' j) := (scanDown_end (fun x_1 => !ltInt x_1 dk[x]!) dk i' j' (Or.inr (by rw [HG.out, HG.out] at ht; exact ht))).symm.trans HSD.out
                            have hlt3 : i' < j' := part_scans_lt ltInt x i j dk (by omega) hi2.out hj2.out hle2
                            clear ht HSD
                            have hc3 : ∀ t, t < d.size → (wr.drewN nq).cell? ⟨b, o + t, none⟩ = some (.int .u16 (G t)) := hc
                            have hf3 : ∀ t, t < d.size → (wr.drewN nq).frozen? ⟨b, o + t, none⟩ = false := hf
                            have H3 : Aside (SRow (wr.drewN nq) b o dk ∧ Only b w (wr.drewN nq)) := ⟨HR.out.1.drewN _, HR.out.2.drewN _⟩
                            clear hc hf HR
                            generalize wr.drewN nq = wr at hc3 hf3 H3 ⊢
                            obtain ⟨v3, hy3⟩ := cell?_setCell_some (w := wr) (p := ⟨b, o + i', none⟩) (x := .int .u16 (G j')) (q := ⟨b, o + j', none⟩) (hc3 j' (by omega))
                            go_wp2
                            go_region
                            all_goals go_wp2
                            go_roundg (j' - 1 + 1 - (i' + 1))
                            case rel =>
                              go_light
                              exact ⟨i' + 1, j' - 1, swp dk i' j', rfl, by go_num, by go_num, by omega, by omega, by omega, by rw [size_swp]; exact hs, (H3.out.1.swap' (i := i') (j := j') (by omega) (by omega) (HG.out _) (HG.out _)).drew, (H3.out.2.swap _ _ _ _).drew, by rw [← HE.out]; exact (part_go ltInt x i j dk hi2.out hj2.out (by omega)).symm⟩
                            case measure => go_light; omega
                        · go_wp2_with fail
                          go_quiet ((go_at_call 45; exact Calls.quiet_of_same (less45 _ _ _)))
                          have hj2 : Aside (j' = scanDown (fun x_1 => !ltInt x_1 dk[x]!) dk i' j) := (scanDown_end (fun x_1 => !ltInt x_1 dk[x]!) dk i' j' (Or.inl hle2)).symm.trans HSD.out
                          clear HSD
                          have hc3 : ∀ t, t < d.size → (wr.drewN nq).cell? ⟨b, o + t, none⟩ = some (.int .u16 (G t)) := hc
                          have hf3 : ∀ t, t < d.size → (wr.drewN nq).frozen? ⟨b, o + t, none⟩ = false := hf
                          have H3 : Aside (SRow (wr.drewN nq) b o dk ∧ Only b w (wr.drewN nq)) := ⟨HR.out.1.drewN _, HR.out.2.drewN _⟩
                          clear hc hf HR
                          generalize wr.drewN nq = wr at hc3 hf3 H3 ⊢
                          obtain ⟨v3, hy3⟩ := cell?_setCell_some (w := wr) (p := ⟨b, o + j', none⟩) (x := .int .u16 (G x)) (q := ⟨b, o + x, none⟩) (hc3 x (by omega))
                          go_wp2
                          go_region
                          all_goals go_wp2
                          go_ret2
                          have e := part_break ltInt x i j dk hi2.out hj2.out (by omega)
                          have e1 : partition ltInt d x y pivot = (j', false, swp dk j' x) := by rw [HP.out, ← HE.out, e]
                          refine ⟨?_, ?_, (H3.out.2.swap _ _ _ _).drew⟩
                          · rw [e1]; rfl
                          · rw [e1]; exact (H3.out.1.swap' (i := j') (j := x) (by omega) (by omega) (HG.out _) (HG.out _)).drew
                  · go_wp2_with fail
                    go_quiet ((go_at_call 45; exact Calls.quiet_of_same (less45 _ _ _)))
                    have hi2 : Aside (i' = scanUp (fun x_1 => ltInt x_1 dk[x]!) dk j i) := (scanUp_end (fun x_1 => ltInt x_1 dk[x]!) dk j i' (Or.inl hle)).symm.trans HSC.out
                    have HU : Aside (SRow (wr.drewN nq) b o dk ∧ Only b w (wr.drewN nq)) := ⟨HR.out.1.drewN _, HR.out.2.drewN _⟩
                    clear HSC HR hc hf HG
                    generalize wr.drewN nq = wr at HU ⊢
                    go_wp2
                    obtain ⟨wd, hwd⟩ : ∃ wd : World, wd = wr := ⟨_, rfl⟩
                    clear hwd
                    go_loopg [11] j (fun g vj wr => ∃ (j' : Nat), g = j' + 0 ∧ vj = .int .i64 j' ∧ j' ≤ j ∧ i' ≤ j' + 1 ∧ SRow wr b o dk ∧ Only b w wr ∧ scanDown (fun x_1 => !ltInt x_1 dk[x]!) dk i' j' = scanDown (fun x_1 => !ltInt x_1 dk[x]!) dk i' j)
                    case atStart => exact ⟨j, rfl, rfl, Nat.le_refl _, hij', HU.out.1, HU.out.2, rfl⟩
                    case round =>
                      obtain ⟨j', hgj, rfl, hjj, hij2, hr2, hO2, hsd⟩ := hrel
                      obtain ⟨G, hc, hf, HG⟩ := hr2.fam
                      rw [hs] at hc hf
                      have HSD : Aside (scanDown (fun x_1 => !ltInt x_1 dk[x]!) dk i' j' = scanDown (fun x_1 => !ltInt x_1 dk[x]!) dk i' j) := hsd
                      have HR : Aside (SRow wr b o dk ∧ Only b w wr) := ⟨hr2, hO2⟩
                      clear hsd hr2 hO2 HU
                      by_cases hle2 : i' ≤ j'
                      · exfalso; omega
                      · go_wp2_with fail
                        go_quiet ((go_at_call 45; exact Calls.quiet_of_same (less45 _ _ _)))
                        have hj2 : Aside (j' = scanDown (fun x_1 => !ltInt x_1 dk[x]!) dk i' j) := (scanDown_end (fun x_1 => !ltInt x_1 dk[x]!) dk i' j' (Or.inl hle2)).symm.trans HSD.out
                        clear HSD
                        have hc3 : ∀ t, t < d.size → (wr.drewN nq).cell? ⟨b, o + t, none⟩ = some (.int .u16 (G t)) := hc
                        have hf3 : ∀ t, t < d.size → (wr.drewN nq).frozen? ⟨b, o + t, none⟩ = false := hf
                        have H3 : Aside (SRow (wr.drewN nq) b o dk ∧ Only b w (wr.drewN nq)) := ⟨HR.out.1.drewN _, HR.out.2.drewN _⟩
                        clear hc hf HR
                        generalize wr.drewN nq = wr at hc3 hf3 H3 ⊢
                        obtain ⟨v3, hy3⟩ := cell?_setCell_some (w := wr) (p := ⟨b, o + j', none⟩) (x := .int .u16 (G x)) (q := ⟨b, o + x, none⟩) (hc3 x (by omega))
                        go_wp2
                        go_region
                        all_goals go_wp2
                        go_ret2
                        have e := part_break ltInt x i j dk hi2.out hj2.out (by omega)
                        have e1 : partition ltInt d x y pivot = (j', false, swp dk j' x) := by rw [HP.out, ← HE.out, e]
                        refine ⟨?_, ?_, (H3.out.2.swap _ _ _ _).drew⟩
                        · rw [e1]; rfl
                        · rw [e1]; exact (H3.out.1.swap' (i := j') (j := x) (by omega) (by omega) (HG.out _) (HG.out _)).drew
          · go_wp2_with fail
            go_quiet ((go_at_call 45; exact Calls.quiet_of_same (less45 _ _ _)))
            have hj2 : Aside (j' = scanDown (fun x_1 => !ltInt x_1 dk[x]!) dk i' j) := (scanDown_end (fun x_1 => !ltInt x_1 dk[x]!) dk i' j' (Or.inl hle2)).symm.trans HSD.out
            clear HSD
            have hc3 : ∀ t, t < d.size → (wr.drewN nq).cell? ⟨b, o + t, none⟩ = some (.int .u16 (G t)) := hc
            have hf3 : ∀ t, t < d.size → (wr.drewN nq).frozen? ⟨b, o + t, none⟩ = false := hf
            have H3 : Aside (SRow (wr.drewN nq) b o dk ∧ Only b w (wr.drewN nq)) := ⟨HR.out.1.drewN _, HR.out.2.drewN _⟩
            clear hc hf HR
            generalize wr.drewN nq = wr at hc3 hf3 H3 ⊢
            obtain ⟨v3, hy3⟩ := cell?_setCell_some (w := wr) (p := ⟨b, o + j', none⟩) (x := .int .u16 (G x)) (q := ⟨b, o + x, none⟩) (hc3 x (by omega))
            go_wp2
            go_region
            all_goals go_wp2
            go_ret2
            have e1 : partition ltInt d x y pivot = (j', true, swp dk j' x) := part_first_break ltInt d x y pivot HI.out.1 HI.out.2.1 HI.out.2.2 hi2.out hj2.out (by omega)
            refine ⟨?_, ?_, (H3.out.2.swap _ _ _ _).drew⟩
            · rw [e1]; rfl
            · rw [e1]; exact (H3.out.1.swap' (i := j') (j := x) (by omega) (by omega) (HG.out _) (HG.out _)).drew
    · go_wp2_with fail
      go_quiet ((go_at_call 45; exact Calls.quiet_of_same (less45 _ _ _)))
      have hi2 : Aside (i' = scanUp (fun x_1 => ltInt x_1 dk[x]!) dk j i) := (scanUp_end (fun x_1 => ltInt x_1 dk[x]!) dk j i' (Or.inl hle)).symm.trans HSC.out
      have HU : Aside (SRow (wr.drewN nq) b o dk ∧ Only b w (wr.drewN nq)) := ⟨HR.out.1.drewN _, HR.out.2.drewN _⟩
      clear HSC HR hc hf HG
      generalize wr.drewN nq = wr at HU ⊢
      go_wp2
      obtain ⟨wd, hwd⟩ : ∃ wd : World, wd = wr := ⟨_, rfl⟩
      clear hwd
      go_loopg [11] j (fun g vj wr => ∃ (j' : Nat), g = j' + 0 ∧ vj = .int .i64 j' ∧ j' ≤ j ∧ i' ≤ j' + 1 ∧ SRow wr b o dk ∧ Only b w wr ∧ scanDown (fun x_1 => !ltInt x_1 dk[x]!) dk i' j' = scanDown (fun x_1 => !ltInt x_1 dk[x]!) dk i' j)
      case atStart => exact ⟨j, rfl, rfl, Nat.le_refl _, hij', HU.out.1, HU.out.2, rfl⟩
      case round =>
        obtain ⟨j', hgj, rfl, hjj, hij2, hr2, hO2, hsd⟩ := hrel
        obtain ⟨G, hc, hf, HG⟩ := hr2.fam
        rw [hs] at hc hf
        have HSD : Aside (scanDown (fun x_1 => !ltInt x_1 dk[x]!) dk i' j' = scanDown (fun x_1 => !ltInt x_1 dk[x]!) dk i' j) := hsd
        have HR : Aside (SRow wr b o dk ∧ Only b w wr) := ⟨hr2, hO2⟩
        clear hsd hr2 hO2 HU
        by_cases hle2 : i' ≤ j'
        · exfalso; omega
        · go_wp2_with fail
          go_quiet ((go_at_call 45; exact Calls.quiet_of_same (less45 _ _ _)))
          have hj2 : Aside (j' = scanDown (fun x_1 => !ltInt x_1 dk[x]!) dk i' j) := (scanDown_end (fun x_1 => !ltInt x_1 dk[x]!) dk i' j' (Or.inl hle2)).symm.trans HSD.out
          clear HSD
          have hc3 : ∀ t, t < d.size → (wr.drewN nq).cell? ⟨b, o + t, none⟩ = some (.int .u16 (G t)) := hc
          have hf3 : ∀ t, t < d.size → (wr.drewN nq).frozen? ⟨b, o + t, none⟩ = false := hf
          have H3 : Aside (SRow (wr.drewN nq) b o dk ∧ Only b w (wr.drewN nq)) := ⟨HR.out.1.drewN _, HR.out.2.drewN _⟩
          clear hc hf HR
          generalize wr.drewN nq = wr at hc3 hf3 H3 ⊢
          obtain ⟨v3, hy3⟩ := cell?_setCell_some (w := wr) (p := ⟨b, o + j', none⟩) (x := .int .u16 (G x)) (q := ⟨b, o + x, none⟩) (hc3 x (by omega))
          go_wp2
          go_region
          all_goals go_wp2
          go_ret2
          have e1 : partition ltInt d x y pivot = (j', true, swp dk j' x) := part_first_break ltInt d x y pivot HI.out.1 HI.out.2.1 HI.out.2.2 hi2.out hj2.out (by omega)
          refine ⟨?_, ?_, (H3.out.2.swap _ _ _ _).drew⟩
          · rw [e1]; rfl
          · rw [e1]; exact (H3.out.1.swap' (i := j') (j := x) (by omega) (by omega) (HG.out _) (HG.out _)).drew
end Go.Proofs.Qxb6603969a
