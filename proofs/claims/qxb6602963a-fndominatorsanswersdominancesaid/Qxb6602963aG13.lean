import Derived.Test.Qxb6602963aG11
namespace Go.Proofs.Qxb6602963a
open Go.RowKit
set_option linter.unusedVariables false

set_option maxHeartbeats 4000000 in
set_option maxRecDepth 100000 in
/-- the law's main road -/
theorem law5m (src p1 o1 c1 : Nat) (a2 : Option Addr) (n L c2 : Nat) (z1 z2 : Nat → Int) (w : World) (hn : 1 ≤ n) (hn2 : n ≤ 4096) (hL : L ≤ 65536) (hs : src < n) (h1 : ∀ i, i < n + 1 → w.cell? ⟨p1, o1 + i, none⟩ = some (.int .i32 (z1 i))) (h2 : Reads w a2 L (fun i => .int .i32 (z2 i))) (hb1 : ∀ i, i < n + 1 → -2147483648 ≤ z1 i ∧ z1 i ≤ 2147483647) (hb2 : ∀ i, i < L → -2147483648 ≤ z2 i ∧ z2 i ≤ 2147483647) :
    Calls Try.prog 5 #[.int .i64 src, .slice (some ⟨p1, o1, none⟩) (n + 1) c1, .slice a2 L c2] w fun e w' => e = .returned (.bool true) ∧ Below w.heap.size w w' := by
  have hd : decide (n + 1 + L ≤ 1048576) = true := by simp; omega
  have m1 := run_make_row' (P := Try.prog) 29 4 (.bool false) _ Try.underlying29 Try.info4 rfl .i64 .i64 n (by omega) (by omega)
  have HI : Aside ((∀ i, i < n + 1 → w.cell? ⟨p1, o1 + i, none⟩ = some (.int .i32 (z1 i))) ∧ Reads w a2 L (fun i => .int .i32 (z2 i)) ∧ (∀ i, i < n + 1 → -2147483648 ≤ z1 i ∧ z1 i ≤ 2147483647) ∧ (∀ i, i < L → -2147483648 ≤ z2 i ∧ z2 i ≤ 2147483647)) := ⟨h1, h2, hb1, hb2⟩
  clear h1 h2 hb1 hb2
  go_enter Try.func5, Try.ntmps5
  go_wp2_with fail
  refine (zz17 _ _ _ _ _ _ _ w).mono ?_
  rintro r w1 ⟨rfl, rfl⟩
  rw [hd]
  clear hd
  go_wp2_with fail
  refine (graph18 p1 o1 c1 a2 n L c2 z1 z2 w1 hn hn2 hL HI.out.1 HI.out.2.1 HI.out.2.2.1 HI.out.2.2.2).mono ?_
  rintro r wg ⟨β, rfl, hβ, hb⟩
  by_cases hβ1 : β = false
  · subst hβ1
    have HB : Aside (Below w1.heap.size w1 wg) := hb
    clear hβ hb
    go_wp2
    go_ret
    exact ⟨rfl, HB.out⟩
  have hβ2 : β = true := by cases β; exact absurd rfl hβ1; rfl
  subst hβ2
  obtain ⟨q0, qn, qm, qk⟩ := hβ rfl
  obtain ⟨w, hw⟩ : ∃ w : World, w = w1 := ⟨_, rfl⟩
  subst hw
  obtain ⟨pf, hpf⟩ : ∃ pf : Nat → Nat, ∀ i, i < n + 1 → z1 i = (pf i : Int) := by
    refine ⟨fun i => (z1 i).toNat, fun i hi => ?_⟩
    have : 0 ≤ z1 i := by
      induction i with
      | zero => omega
      | succ i ih => have := ih (by omega); have := qm i (by omega); omega
    show z1 i = ((z1 i).toNat : Int)
    omega
  obtain ⟨pr, hpr⟩ : ∃ pr : Nat → Nat, ∀ k, k < L → z2 k = (pr k : Int) := ⟨fun k => (z2 k).toNat, fun k hk => by have := qk k hk; show z2 k = ((z2 k).toNat : Int); omega⟩
  have HW : Aside (Well n L pf pr) := by
    refine ⟨?_, ?_, fun v hv => ?_, fun k hk => ?_⟩
    · have := hpf 0 (by omega); omega
    · have := hpf n (by omega); omega
    · have := hpf v (by omega); have := hpf (v + 1) (by omega); have := qm v hv; omega
    · have := hpr k hk; have := qk k hk; omega
  have H1 : Aside (Below w.heap.size w wg ∧ Reads w (some ⟨p1, o1, none⟩) (n + 1) (fun i => .int .i32 (z1 i)) ∧ (∀ i, i < n + 1 → z1 i = (pf i : Int)) ∧ ∀ k, k < L → z2 k = (pr k : Int)) := ⟨hb, fun _ => ⟨p1, o1, rfl, HI.out.1⟩, hpf, hpr⟩
  clear hβ hβ1 q0 qn qm qk hpf hpr hb
  go_wp2_with fail
  refine (clone11 ⟨p1, o1, none⟩ (n + 1) c1 z1 wg (H1.out.2.1.below H1.out.1) (by omega)).mono ?_
  rintro r w2 ⟨b1, rfl, hrow, hb1, hb2⟩
  have H2 : Aside (Below w.heap.size w w2 ∧ Row w2 b1 0 (n + 1) pf ∧ Reads w2 a2 L (fun i => .int .i32 (z2 i))) :=
    ⟨below_step H1.out.1 hb2, fun i hi => by rw [Nat.zero_add, ← H1.out.2.2.1 i hi]; exact hrow.cell hi, HI.out.2.1.below (below_step H1.out.1 hb2)⟩
  clear hrow hb1 hb2
  go_wp2_with fail
  refine (clone_any a2 L c2 z2 w2 H2.out.2.2 (by omega)).mono ?_
  rintro r w3 ⟨ad, cd, rfl, hLc, hrd, hb3⟩
  have H3 : Aside (Below w.heap.size w w3 ∧ Row w3 b1 0 (n + 1) pf ∧ Reads w3 ad L (fun i => .int .i32 (pr i : Int))) :=
    ⟨below_step H2.out.1 hb3, H2.out.2.1.below hb3, fun h0 => by
      obtain ⟨b, o, e, hc⟩ := hrd h0
      exact ⟨b, o, e, fun i hi => by show w3.cell? _ = some (.int .i32 (pr i : Int)); rw [← H1.out.2.2.2 i hi]; exact hc i hi⟩⟩
  clear hrd hb3 H2 H1 HI
  go_wp2_with fail
  refine (zdom19 src b1 0 (n + 1) ad n L cd pf pr w3 HW.out hn hn2 hL hLc hs H3.out.2.1 H3.out.2.2).mono ?_
  rintro r w4 ⟨bp, bq, bs, pre, post, span, rfl, rp, rq, rs, hb4, hans⟩
  have H4 : Aside (Below w.heap.size w w4 ∧ Row w4 b1 0 (n + 1) pf ∧ Reads w4 ad L (fun i => .int .i32 (pr i : Int)) ∧ Arr w4 bp n pre ∧ Arr w4 bq n post ∧ Arr w4 bs n span) :=
    ⟨below_step H3.out.1 hb4, H3.out.2.1.below hb4, H3.out.2.2.below hb4, rp, rq, rs⟩
  have HX : Aside (∀ (sf2 sc2 : Nat → Nat) (S : Nat → Bool), Gr n L sf2 sc2 → (∀ u v, u < n → v < n → (Go1 sf2 sc2 u v ↔ Fits n pf pr u v)) → (∀ v, v < n → (S v = true ↔ RV (Go1 sf2 sc2) src (-1) v)) → Ans n src (Go1 sf2 sc2) (Fits n pf pr) S pre post span) := hans
  clear rp rq rs hb4 hans H3
  go_wp2_with fail
  refine (forward20 b1 0 (n + 1) ad n L cd pf pr w4 HW.out hn hn2 hL H4.out.2.1 H4.out.2.2.1).mono ?_
  rintro r w5 ⟨b3, b4, sf, sc, rfl, hb3, hb4, r3, r4, hG, hf, hb5⟩
  have H5 : Aside (Below w.heap.size w w5 ∧ Row w5 b1 0 (n + 1) pf ∧ Reads w5 ad L (fun i => .int .i32 (pr i : Int)) ∧ Arr w5 bp n pre ∧ Arr w5 bq n post ∧ Arr w5 bs n span ∧ Arr w5 b3 (n + 1) (fun i => (sf i : Int)) ∧ Arr w5 b4 L (fun i => (sc i : Int))) :=
    ⟨below_step H4.out.1 hb5, H4.out.2.1.below hb5, H4.out.2.2.1.below hb5, H4.out.2.2.2.1.below hb5, H4.out.2.2.2.2.1.below hb5, H4.out.2.2.2.2.2.below hb5, r3.arr, r4.arr⟩
  have HG : Aside (Gr n L sf sc ∧ ∀ u v, u < n → v < n → (Go1 sf sc u v ↔ Fits n pf pr u v)) := ⟨hG, hf⟩
  clear hb3 hb4 r3 r4 hG hf hb5 H4
  go_wp2_with fail
  refine (reach21 b3 (n + 1) b4 L n L src (-1) sf sc w5 HG.out.1 hn hn2 hL hs (by omega) H5.out.2.2.2.2.2.2.1 H5.out.2.2.2.2.2.2.2).mono ?_
  rintro r w6 ⟨bR, S, rfl, hbR, hB, hS, hb6⟩
  obtain ⟨B, hBe⟩ : ∃ B, B = w6.heap.size := ⟨_, rfl⟩
  have HM : Aside (MZ w w6 n L b1 ad bp bq bs b3 b4 bR B pf pr sf sc pre post span S ∧ B = w6.heap.size) := by
    obtain ⟨x1, x2, x3, x4, x5, x6, x7, x8⟩ := H5.out
    have y1 : b1 < w5.heap.size := World.block_lt_of_cell? _ _ (x2 0 (by omega))
    have hsz := hb6.size
    have y7 := World.rowIs.lt hB
    refine ⟨⟨below_step x1 hb6, x2.below hb6, fun h0 => ?_, x4.below hb6, x5.below hb6, x6.below hb6, x7.below hb6, x8.below hb6, hB, ⟨by omega, by have := x4.lt; omega, by have := x5.lt; omega, by have := x6.lt; omega, by have := x7.lt; omega, by have := x8.lt; omega, by omega⟩, by have := x1.size; omega, by omega⟩, hBe⟩
    obtain ⟨b, o, e, hc⟩ := x3 h0
    exact ⟨b, o, e, by have : b < w5.heap.size := World.block_lt_of_cell? _ _ (hc 0 h0); omega, fun i hi => cell_later hb6 (hc i hi)⟩
  have HA : Aside (Ans n src (Go1 sf sc) (Fits n pf pr) S pre post span) := HX.out sf sc S HG.out.1 HG.out.2 hS
  clear hB hbR hS hb6 hBe H5 HX
  go_upto_block 0 with fail
  go_cut [14] (fun s14 wx => s14 = .int .i64 (cn S n : Nat) ∧ wx = w6)
  case first => as_aux_lemma =>
    go_wp2_with fail
    go_loopg [14, 15] n (fun g s14 s15 wr => ∃ x : Nat, x ≤ n ∧ g = n - x ∧ s14 = .int .i64 (cn S x : Nat) ∧ s15 = .int .i64 x ∧ wr = w6)
    case atStart => exact ⟨0, Nat.zero_le _, rfl, rfl, rfl, rfl⟩
    case round => as_aux_lemma =>
      obtain ⟨x, hx, rfl, rfl, rfl, rfl⟩ := hrel
      obtain ⟨k, hk⟩ : ∃ k, k = cn S x := ⟨_, rfl⟩
      have hkx : k ≤ x := by rw [hk]; exact cn_le S x
      rw [← hk]
      have HK : Aside (k = cn S x) := hk
      clear hk
      by_cases hlt : x < n
      · by_cases hSx : S x = true
        · have gR : wr.cell? ⟨bR, x, none⟩ = some (.bool true) := by rw [← hSx]; exact HM.out.1.aR.cell hlt
          go_wp2
          go_roundg (n - (x + 1))
          case rel =>
            go_light
            refine ⟨x + 1, by omega, rfl, ?_, by go_num, rfl⟩
            have e : cn S (x + 1) = k + 1 := by rw [HK.out]; simp only [cn]; rw [if_pos hSx]
            rw [e]
            go_num
          case measure => go_light; omega
        · have hSx2 : S x = false := Bool.eq_false_iff.2 hSx
          have gR : wr.cell? ⟨bR, x, none⟩ = some (.bool false) := by rw [← hSx2]; exact HM.out.1.aR.cell hlt
          go_wp2
          go_roundg (n - (x + 1))
          case rel =>
            go_light
            refine ⟨x + 1, by omega, rfl, ?_, by go_num, rfl⟩
            have e : cn S (x + 1) = k := by rw [HK.out]; simp only [cn]; rw [if_neg hSx]; omega
            rw [e]
          case measure => go_light; omega
      · obtain rfl : x = n := by omega
        go_wp2
        go_meet
        case rel => exact ⟨by rw [HK.out], rfl⟩
  obtain ⟨rfl, hwc⟩ := hcut
  rw [← hwc] at HM
  clear hwc
  obtain ⟨R, hR⟩ : ∃ R, R = cn S n := ⟨_, rfl⟩
  have hRn : R ≤ n := by rw [hR]; exact cn_le S n
  rw [← hR]
  have HR : Aside (R = cn S n) := hR
  clear hR
  go_upto_block 2 with fail
  have hBs : wc.heap.size = B := HM.out.2.symm
  rw [hBs]
  have HM2 : Aside (MZ w (wc.alloc (.cells (madeCells #[.bool false] n) 4)) n L b1 ad bp bq bs b3 b4 bR B pf pr sf sc pre post span S ∧ Bools (wc.alloc (.cells (madeCells #[.bool false] n) 4)) B n (fun _ => false)) :=
    ⟨HM.out.1.later ((Below.refl _ _).alloc (by rw [hBs]; exact Nat.le_refl _) _), by rw [← hBs]; exact Bools.made wc n⟩
  clear HM hBs m1
  generalize wc.alloc (.cells (madeCells #[.bool false] n) 4) = wr at HM2 ⊢
  go_cut [17] (fun s17 wx => MZ w wx n L b1 ad bp bq bs b3 b4 bR B pf pr sf sc pre post span S)
  case first => as_aux_lemma =>
    go_wp2_with fail
    go_loopg [17] n (fun g s17 wr => ∃ (x : Nat) (T : Nat → Bool), x ≤ n ∧ g = n - x ∧ s17 = .int .i64 x ∧ MZ w wr n L b1 ad bp bq bs b3 b4 bR B pf pr sf sc pre post span S ∧ Bools wr B n T ∧ ∀ p, p < n → T p = true → ∃ u, u < x ∧ S u = true ∧ pre u = (p : Int))
    case atStart => exact ⟨0, _, Nat.zero_le _, rfl, rfl, HM2.out.1, HM2.out.2, fun p _ h => by simp at h⟩
    case round => as_aux_lemma =>
      clear HM2
      obtain ⟨x, T, hx, rfl, rfl, hM, hT, hTT⟩ := hrel
      by_cases hlt : x < n
      · by_cases hSx : S x = true
        · obtain ⟨px, hpx⟩ : ∃ px : Nat, pre x = (px : Int) := ⟨(pre x).toNat, by have := HA.out.rng x hlt hSx; omega⟩
          have hpR : px < R := by have := HA.out.rng x hlt hSx; have := HR.out; omega
          have hpn : px < n := by omega
          have gR : wr.cell? ⟨bR, x, none⟩ = some (.bool true) := by rw [← hSx]; exact hM.aR.cell hlt
          have gp : wr.cell? ⟨bp, x, none⟩ = some (.int .i32 (px : Int)) := by rw [← hpx]; exact hM.ap.cell hlt
          have hTf : T px = false := by
            cases h : T px with
            | false => rfl
            | true =>
              obtain ⟨u, hu, hSu, hpu⟩ := hTT px hpn h
              have := HA.out.inj u x (by omega) hlt hSu hSx (by omega)
              omega
          have gT : wr.cell? ⟨B, px, none⟩ = some (.bool false) := by rw [← hTf]; exact hT.cell hpn
          have gTf : wr.frozen? ⟨B, px, none⟩ = false := World.rowIs.frozen hT px
          have A : Aside (MZ w wr n L b1 ad bp bq bs b3 b4 bR B pf pr sf sc pre post span S ∧ Bools wr B n T ∧ (∀ p, p < n → T p = true → ∃ u, u < x ∧ S u = true ∧ pre u = (p : Int)) ∧ pre x = (px : Int)) := ⟨hM, hT, hTT, hpx⟩
          clear hM hT hTT hpx hTf
          go_upto_region 33 with fail
          have A2 : Aside (MZ w (wr.setCell ⟨B, px, none⟩ (.bool true)) n L b1 ad bp bq bs b3 b4 bR B pf pr sf sc pre post span S ∧ Bools (wr.setCell ⟨B, px, none⟩ (.bool true)) B n (updN T px true) ∧ (∀ p, p < n → updN T px true p = true → ∃ u, u < (x + 1) ∧ S u = true ∧ pre u = (p : Int))) := by
            refine ⟨A.out.1.later (show Below B wr (wr.setCell ⟨B, px, none⟩ (.bool true)) from (Below.refl B wr).setCell (by show B ≤ B; exact Nat.le_refl _) _), A.out.2.1.upd px true, fun p hp h => ?_⟩
            by_cases e : p = px
            · exact ⟨x, by omega, hSx, by rw [e]; exact A.out.2.2.2⟩
            · rw [updN_ne _ _ e] at h
              obtain ⟨u, hu, h1, h2⟩ := A.out.2.2.1 p hp h
              exact ⟨u, by omega, h1, h2⟩
          clear A gR gp gT gTf
          generalize wr.setCell ⟨B, px, none⟩ (.bool true) = wr at A2 ⊢
          generalize updN T px true = T2 at A2
          by_cases hxs : x = src
          · have gs : wr.cell? ⟨bs, x, none⟩ = some (.int .i32 (-1)) := by have := A2.out.1.asp.cell hlt; rw [show span x = -1 by rw [hxs]; exact HA.out.root.2] at this; exact this
            have hxs2 : ((x : Int) == (src : Int)) = true := by simp; omega
            clear hxs
            go_wp2
            go_roundg (n - (x + 1))
            case rel => go_light; exact ⟨x + 1, T2, by omega, rfl, by go_num, A2.out.1, A2.out.2.1, A2.out.2.2⟩
            case measure => go_light; omega
          · obtain ⟨s, hsn, hss, hSs, hfit⟩ := HA.out.sp x hlt hSx hxs
            have gs : wr.cell? ⟨bs, x, none⟩ = some (.int .i32 (s : Int)) := by rw [← hss]; exact A2.out.1.asp.cell hlt
            have gRs : wr.cell? ⟨bR, s, none⟩ = some (.bool true) := by rw [← hSs]; exact A2.out.1.aR.cell hsn
            have hL0 : 0 < L := by
              obtain ⟨k, _, k2, _⟩ := hfit
              have h1 := HW.out.le (x + 1) n (by omega) (Nat.le_refl _)
              rw [HW.out.t] at h1
              omega
            have HFt : Aside (Fits n pf pr s x) := hfit
            have hxs2 : ((x : Int) == (src : Int)) = false := by simp; omega
            clear hss hSs hfit hxs
            obtain ⟨b2, o2, hade, hb2, hr2⟩ := A2.out.1.r2 hL0
            subst hade
            have HR2 : Aside (Row wr b2 o2 L pr) := hr2
            clear hr2
            go_wp2_with fail
            refine (edge22 b1 0 (n + 1) b2 o2 cd n L s x pf pr wr HW.out hn2 hL A2.out.1.r1 HR2.out hlt hsn HFt.out).mono ?_
            rintro r w8 ⟨rfl, hb⟩
            have A3 : Aside (MZ w w8 n L b1 (some ⟨b2, o2, none⟩) bp bq bs b3 b4 bR B pf pr sf sc pre post span S ∧ Bools w8 B n T2 ∧ (∀ p, p < n → T2 p = true → ∃ u, u < (x + 1) ∧ S u = true ∧ pre u = (p : Int))) := ⟨A2.out.1.later (hb.mono A2.out.1.sz.2), A2.out.2.1.below hb, A2.out.2.2⟩
            clear A2 gs gRs hb
            go_wp2
            go_roundg (n - (x + 1))
            case rel => go_light; exact ⟨x + 1, T2, by omega, rfl, by go_num, A3.out.1, A3.out.2.1, A3.out.2.2⟩
            case measure => go_light; omega
        · have hSx2 : S x = false := Bool.eq_false_iff.2 hSx
          obtain ⟨e1, e2, e3⟩ := HA.out.off x hlt hSx2
          have gR : wr.cell? ⟨bR, x, none⟩ = some (.bool false) := by rw [← hSx2]; exact hM.aR.cell hlt
          have gp : wr.cell? ⟨bp, x, none⟩ = some (.int .i32 (-1)) := by rw [← e1]; exact hM.ap.cell hlt
          have gq : wr.cell? ⟨bq, x, none⟩ = some (.int .i32 (-1)) := by rw [← e2]; exact hM.aq.cell hlt
          have gs : wr.cell? ⟨bs, x, none⟩ = some (.int .i32 (-1)) := by rw [← e3]; exact hM.asp.cell hlt
          have A : Aside (MZ w wr n L b1 ad bp bq bs b3 b4 bR B pf pr sf sc pre post span S ∧ Bools wr B n T ∧ ∀ p, p < n → T p = true → ∃ u, u < x ∧ S u = true ∧ pre u = (p : Int)) := ⟨hM, hT, hTT⟩
          clear hM hT hTT e1 e2 e3 hSx hSx2
          go_wp2
          go_roundg (n - (x + 1))
          case rel =>
            go_light
            refine ⟨x + 1, T, by omega, rfl, by go_num, A.out.1, A.out.2.1, fun p hp h => ?_⟩
            obtain ⟨u, hu, h1, h2⟩ := A.out.2.2 p hp h
            exact ⟨u, by omega, h1, h2⟩
          case measure => go_light; omega
      · obtain rfl : x = n := by omega
        have A : Aside (MZ w wr x L b1 ad bp bq bs b3 b4 bR B pf pr sf sc pre post span S) := hM
        clear hM hT hTT
        go_wp2
        go_meet
        case rel => exact A.out
  have HM3 : Aside (MZ w wc n L b1 ad bp bq bs b3 b4 bR B pf pr sf sc pre post span S) := hcut
  clear hcut HM2
  go_upto_block 4 with fail
  obtain ⟨w7, hw7⟩ : ∃ w7 : World, w7 = wc := ⟨_, rfl⟩
  rw [← hw7] at HM3 ⊢
  clear hw7
  go_cut [19] (fun s19 wx => wx = w7)
  case first => as_aux_lemma =>
    go_wp2_with fail
    go_loopg [19] n (fun g s19 wr => ∃ x : Nat, x ≤ n ∧ g = n - x ∧ s19 = .int .i64 x ∧ wr = w7)
    case atStart => exact ⟨0, Nat.zero_le _, rfl, rfl, rfl⟩
    case round => as_aux_lemma =>
      obtain ⟨x, hx, rfl, rfl, rfl⟩ := hrel
      by_cases hlt : x < n
      · by_cases hSx : S x = true
        · have gR : wr.cell? ⟨bR, x, none⟩ = some (.bool true) := by rw [← hSx]; exact HM3.out.aR.cell hlt
          obtain ⟨rk, k1, k2⟩ := HA.out.rk
          have hrx : rk x < n := k1 x hlt hSx
          have HK : Aside (∀ v s : Nat, v < n → S v = true → v ≠ src → span v = (s : Int) → s < n → rk s < rk v) := k2
          have HSx : Aside (S x = true) := hSx
          clear k1 k2 hSx
          go_upto_block 6 with fail
          obtain ⟨wo, rfl⟩ : ∃ wo : World, wo = wr := ⟨_, rfl⟩
          go_wp2_with fail
          go_loopg [20, 21] (rk x + 0) (fun g s20 s21 wr => ∃ y k : Nat, y < n ∧ S y = true ∧ g = rk y + 0 ∧ k + rk y ≤ rk x ∧ s20 = .int .i32 y ∧ s21 = .int .i64 k ∧ wr = wo)
          case atStart => exact ⟨x, 0, hlt, HSx.out, rfl, by omega, rfl, rfl, rfl⟩
          case round => as_aux_lemma =>
            obtain ⟨y, k, hy, hSy, hg, hkr, rfl, rfl, rfl⟩ := hrel
            by_cases hys : y = src
            · have hys2 : ((y : Int) == (src : Int)) = true := by simp; omega
              clear hys hSy
              go_wp2
              go_roundg (n - (x + 1))
              case rel => go_light; exact ⟨x + 1, by omega, rfl, by go_num, rfl⟩
              case measure => go_light; omega
            · obtain ⟨s, hsn, hss, hSs, _⟩ := HA.out.sp y hy hSy hys
              have hrs := HK.out y s hy hSy hys hss hsn
              have gs : wr.cell? ⟨bs, y, none⟩ = some (.int .i32 (s : Int)) := by rw [← hss]; exact HM3.out.asp.cell hy
              have hys2 : ((y : Int) == (src : Int)) = false := by simp; omega
              have HSs : Aside (S s = true) := hSs
              clear hys hSy hss hSs
              go_wp2
              go_roundg (rk s)
              case rel => go_light; exact ⟨s, k + 1, hsn, HSs.out, rfl, by omega, rfl, by go_num, rfl⟩
              case measure => go_light; rw [hg]; omega
        · have hSx2 : S x = false := Bool.eq_false_iff.2 hSx
          have gR : wr.cell? ⟨bR, x, none⟩ = some (.bool false) := by rw [← hSx2]; exact HM3.out.aR.cell hlt
          clear hSx hSx2
          go_wp2
          go_roundg (n - (x + 1))
          case rel => go_light; exact ⟨x + 1, by omega, rfl, by go_num, rfl⟩
          case measure => go_light; omega
      · obtain rfl : x = n := by omega
        go_wp2
        go_meet
        case rel => rfl
  rw [← hcut] at HM3
  clear hcut
  go_upto_block 8 with fail
  go_cut [22] (fun s22 wx => MZ w wx n L b1 ad bp bq bs b3 b4 bR B pf pr sf sc pre post span S)
  case first => as_aux_lemma =>
    go_wp2_with fail
    go_loopg [22] n (fun g s22 wr => ∃ a : Nat, a ≤ n ∧ g = n - a ∧ s22 = .int .i64 a ∧ MZ w wr n L b1 ad bp bq bs b3 b4 bR B pf pr sf sc pre post span S)
    case atStart => exact ⟨0, Nat.zero_le _, rfl, rfl, HM3.out⟩
    case round => as_aux_lemma =>
      clear HM3
      obtain ⟨a, ha, rfl, rfl, hM⟩ := hrel
      have A0 : Aside (MZ w wr n L b1 ad bp bq bs b3 b4 bR B pf pr sf sc pre post span S) := hM
      clear hM
      by_cases hlt : a < n
      · by_cases hSa : S a = true
        · by_cases has : a = src
          · have e0 := HA.out.rng a hlt hSa
            obtain ⟨px, hpx⟩ : ∃ px : Nat, pre a = (px : Int) := ⟨(pre a).toNat, by omega⟩
            obtain ⟨qx, hqx⟩ : ∃ qx : Nat, post a = (qx : Int) := ⟨(post a).toNat, by omega⟩
            have hpq : px ≤ qx := by omega
            have hqn : qx ≤ n := by omega
            obtain ⟨dm, hdm⟩ : ∃ dm : Nat → Bool, dm = fun b => decide (pre a ≤ pre b) && decide (pre b < post a) := ⟨_, rfl⟩
            have hKe : (cn dm n : Int) = (qx : Int) - (px : Int) := by rw [hdm, ← hpx, ← hqx]; exact HA.out.cnt a hlt hSa
            have HQ : Aside (pre a = (px : Int) ∧ post a = (qx : Int) ∧ S a = true ∧ ∀ b, dm b = true ↔ ((px : Int) ≤ pre b ∧ pre b < (qx : Int))) := ⟨hpx, hqx, hSa, fun b => by rw [hdm, hpx, hqx, Bool.and_eq_true, decide_eq_true_iff, decide_eq_true_iff]⟩
            clear hdm hpx hqx e0
            have gRa : wr.cell? ⟨bR, a, none⟩ = some (.bool true) := by rw [← hSa]; exact A0.out.aR.cell hlt
            have has2 : ((a : Int) == (src : Int)) = true := by simp; omega
            have has3 : Aside (a = src) := has
            clear hSa has
            go_upto_block 10 with fail
            have AM : Aside (MZ w wr n L b1 ad bp bq bs b3 b4 bR B pf pr sf sc pre post span S) := A0.out
            clear A0 gRa
            go_cut [24] (fun s24 wx => s24 = .int .i32 (cn dm n : Nat) ∧ MZ w wx n L b1 ad bp bq bs b3 b4 bR B pf pr sf sc pre post span S)
            case first => as_aux_lemma =>
              go_wp2_with fail
              go_loopg [24, 25] n (fun g s24 s25 wr => ∃ b : Nat, b ≤ n ∧ g = n - b ∧ s24 = .int .i32 (cn dm b : Nat) ∧ s25 = .int .i64 b ∧ MZ w wr n L b1 ad bp bq bs b3 b4 bR B pf pr sf sc pre post span S)
              case atStart => exact ⟨0, Nat.zero_le _, rfl, rfl, rfl, AM.out⟩
              case round => as_aux_lemma =>
                clear AM
                obtain ⟨b, hb, rfl, rfl, rfl, hM⟩ := hrel
                obtain ⟨k, hk⟩ : ∃ k, k = cn dm b := ⟨_, rfl⟩
                have hkb : k ≤ b := by rw [hk]; exact cn_le dm b
                rw [← hk]
                have HK : Aside (k = cn dm b) := hk
                have A : Aside (MZ w wr n L b1 ad bp bq bs b3 b4 bR B pf pr sf sc pre post span S) := hM
                clear hk hM hKe
                by_cases hbn : b < n
                · have gRa : wr.cell? ⟨bR, a, none⟩ = some (.bool true) := by rw [← HQ.out.2.2.1]; exact A.out.aR.cell hlt
                  have gpa : wr.cell? ⟨bp, a, none⟩ = some (.int .i32 (px : Int)) := by rw [← HQ.out.1]; exact A.out.ap.cell hlt
                  have gqa : wr.cell? ⟨bq, a, none⟩ = some (.int .i32 (qx : Int)) := by rw [← HQ.out.2.1]; exact A.out.aq.cell hlt
                  by_cases hSb : S b = true
                  · obtain ⟨pb, hpb⟩ : ∃ pb : Nat, pre b = (pb : Int) := ⟨(pre b).toNat, by have := HA.out.rng b hbn hSb; omega⟩
                    have hpbn : pb ≤ 4096 := by have h1 := HA.out.rng b hbn hSb; have h2 := cn_le S n; omega
                    have gRb : wr.cell? ⟨bR, b, none⟩ = some (.bool true) := by rw [← hSb]; exact A.out.aR.cell hbn
                    have gpb : wr.cell? ⟨bp, b, none⟩ = some (.int .i32 (pb : Int)) := by rw [← hpb]; exact A.out.ap.cell hbn
                    have hdom := HA.out.dom a b hlt hbn HQ.out.2.2.1 hSb
                    rw [HQ.out.1, HQ.out.2.1, hpb] at hdom
                    have HDb : Aside (dm b = true ↔ (px ≤ pb ∧ pb < qx)) := by
                      show dm b = true ↔ (px ≤ pb ∧ pb < qx)
                      rw [HQ.out.2.2.2 b, hpb]
                      omega
                    clear hSb hpb
                    by_cases hab : a = b
                    · have hg2 : px ≤ pb ∧ pb < qx := by
                        have := hdom.2 (.inl hab)
                        omega
                      obtain ⟨hg3, hg4⟩ := hg2
                      have HDv : Aside (dm b = true) := HDb.out.2 ⟨hg3, hg4⟩
                      have hab2 : ((a : Int) == (b : Int)) = true := by simp; omega
                      clear hab hdom HDb
                      go_wp2_with fail
                      go_quiet (fail)
                      have A1 : Aside (MZ w (wr.drewN nq) n L b1 ad bp bq bs b3 b4 bR B pf pr sf sc pre post span S) := A.out.drewN _
                      clear A gRa gpa gqa gRb gpb
                      generalize wr.drewN nq = wr at A1 ⊢
                      go_wp2
                      go_roundg (n - (b + 1))
                      case rel =>
                        go_light
                        have e : cn dm (b + 1) = k + 1 := by
                          have hd := HDv.out
                          rw [HK.out]
                          simp only [cn, hd]
                          rfl
                        exact ⟨b + 1, by omega, rfl, by rw [e]; go_num, by go_num, A1.out⟩
                      case measure => go_light; omega
                    · have hg2 : px ≤ pb ∧ pb < qx := by
                        have := hdom.2 (.inr (.inl has3.out))
                        omega
                      obtain ⟨hg3, hg4⟩ := hg2
                      have HDv : Aside (dm b = true) := HDb.out.2 ⟨hg3, hg4⟩
                      have hab2 : ((a : Int) == (b : Int)) = false := by simp; omega
                      clear hab hdom HDb
                      go_wp2_with fail
                      go_quiet (fail)
                      have A1 : Aside (MZ w (wr.drewN nq) n L b1 ad bp bq bs b3 b4 bR B pf pr sf sc pre post span S) := A.out.drewN _
                      clear A gRa gpa gqa gRb gpb
                      generalize wr.drewN nq = wr at A1 ⊢
                      go_wp2
                      go_roundg (n - (b + 1))
                      case rel =>
                        go_light
                        have e : cn dm (b + 1) = k + 1 := by
                          have hd := HDv.out
                          rw [HK.out]
                          simp only [cn, hd]
                          rfl
                        exact ⟨b + 1, by omega, rfl, by rw [e]; go_num, by go_num, A1.out⟩
                      case measure => go_light; omega
                  · have hSb2 : S b = false := Bool.eq_false_iff.2 hSb
                    obtain ⟨e1, e2, e3⟩ := HA.out.off b hbn hSb2
                    have gRb : wr.cell? ⟨bR, b, none⟩ = some (.bool false) := by rw [← hSb2]; exact A.out.aR.cell hbn
                    have gpb : wr.cell? ⟨bp, b, none⟩ = some (.int .i32 (-1)) := by rw [← e1]; exact A.out.ap.cell hbn
                    have HDv : Aside (dm b = false) := Bool.eq_false_iff.2 (fun c => by have := (HQ.out.2.2.2 b).1 c; omega)
                    have hneg : ((px : Int) ≤ -1) = False := by simp; omega
                    have hneg2 : decide ((px : Int) ≤ -1) = false := by simp; omega
                    clear hSb hSb2 e1 e2 e3
                    go_wp2_with fail
                    go_quiet (fail)
                    have A1 : Aside (MZ w (wr.drewN nq) n L b1 ad bp bq bs b3 b4 bR B pf pr sf sc pre post span S) := A.out.drewN _
                    clear A gRa gpa gqa gRb gpb
                    generalize wr.drewN nq = wr at A1 ⊢
                    go_wp2
                    go_roundg (n - (b + 1))
                    case rel =>
                      go_light
                      have e : cn dm (b + 1) = k := by
                        have hd := HDv.out
                        rw [HK.out]
                        simp only [cn, hd]
                        rfl
                      exact ⟨b + 1, by omega, rfl, by rw [e], by go_num, A1.out⟩
                    case measure => go_light; omega
                · obtain rfl : b = n := by omega
                  go_wp2
                  go_meet
                  case rel => exact ⟨by rw [HK.out], A.out⟩
            obtain ⟨rfl, hM⟩ := hcut
            have AE : Aside (MZ w wc n L b1 ad bp bq bs b3 b4 bR B pf pr sf sc pre post span S) := hM
            obtain ⟨k, hk⟩ : ∃ k, k = cn dm n := ⟨_, rfl⟩
            rw [← hk] at hKe ⊢
            have hqk : qx = px + k := by omega
            have gRa : wc.cell? ⟨bR, a, none⟩ = some (.bool true) := by rw [← HQ.out.2.2.1]; exact AE.out.aR.cell hlt
            have gpa : wc.cell? ⟨bp, a, none⟩ = some (.int .i32 (px : Int)) := by rw [← HQ.out.1]; exact AE.out.ap.cell hlt
            have gqa : wc.cell? ⟨bq, a, none⟩ = some (.int .i32 (qx : Int)) := by rw [← HQ.out.2.1]; exact AE.out.aq.cell hlt
            have hKe3 : (qx : Int) - (px : Int) = (k : Int) := hKe.symm
            clear hM AM hk hKe HQ hqk
            go_wp2_with fail
            go_quiet (fail)
            have AF : Aside (MZ w (wc.drewN nq) n L b1 ad bp bq bs b3 b4 bR B pf pr sf sc pre post span S) := AE.out.drewN _
            clear AE gRa gpa gqa
            generalize wc.drewN nq = wr at AF ⊢
            go_wp2
            go_roundg (n - (a + 1))
            case rel => go_light; exact ⟨a + 1, by omega, rfl, by go_num, AF.out⟩
            case measure => go_light; omega
          · have e0 := HA.out.rng a hlt hSa
            obtain ⟨px, hpx⟩ : ∃ px : Nat, pre a = (px : Int) := ⟨(pre a).toNat, by omega⟩
            obtain ⟨qx, hqx⟩ : ∃ qx : Nat, post a = (qx : Int) := ⟨(post a).toNat, by omega⟩
            have hpq : px ≤ qx := by omega
            have hqn : qx ≤ n := by omega
            obtain ⟨dm, hdm⟩ : ∃ dm : Nat → Bool, dm = fun b => decide (pre a ≤ pre b) && decide (pre b < post a) := ⟨_, rfl⟩
            have hKe : (cn dm n : Int) = (qx : Int) - (px : Int) := by rw [hdm, ← hpx, ← hqx]; exact HA.out.cnt a hlt hSa
            have HQ : Aside (pre a = (px : Int) ∧ post a = (qx : Int) ∧ S a = true ∧ ∀ b, dm b = true ↔ ((px : Int) ≤ pre b ∧ pre b < (qx : Int))) := ⟨hpx, hqx, hSa, fun b => by rw [hdm, hpx, hqx, Bool.and_eq_true, decide_eq_true_iff, decide_eq_true_iff]⟩
            clear hdm hpx hqx e0
            have gRa : wr.cell? ⟨bR, a, none⟩ = some (.bool true) := by rw [← hSa]; exact A0.out.aR.cell hlt
            have has2 : ((a : Int) == (src : Int)) = false := by simp; omega
            have HAS : Aside (a ≠ src) := has
            clear hSa has
            go_wp2_with fail
            refine (reach21 b3 (n + 1) b4 L n L src (a : Int) sf sc wr HG.out.1 hn hn2 hL hs (by omega) A0.out.a3 A0.out.a4).mono ?_
            rintro r w9 ⟨bA, SA, rfl, hbA, hBA, hSA, hb9⟩
            have AM : Aside (MZ w w9 n L b1 ad bp bq bs b3 b4 bR B pf pr sf sc pre post span S ∧ Bools w9 bA n SA) := ⟨A0.out.later (hb9.mono A0.out.sz.2), hBA⟩
            have HSA : Aside (∀ v, v < n → (SA v = true ↔ RV (Go1 sf sc) src (a : Int) v)) := hSA
            clear A0 gRa hbA hBA hSA hb9
            generalize w9 = wr at AM ⊢
            go_upto_block 10 with fail
            go_cut [24] (fun s24 wx => s24 = .int .i32 (cn dm n : Nat) ∧ MZ w wx n L b1 ad bp bq bs b3 b4 bR B pf pr sf sc pre post span S)
            case first => as_aux_lemma =>
              go_wp2_with fail
              go_loopg [24, 25] n (fun g s24 s25 wr => ∃ b : Nat, b ≤ n ∧ g = n - b ∧ s24 = .int .i32 (cn dm b : Nat) ∧ s25 = .int .i64 b ∧ MZ w wr n L b1 ad bp bq bs b3 b4 bR B pf pr sf sc pre post span S ∧ Bools wr bA n SA)
              case atStart => exact ⟨0, Nat.zero_le _, rfl, rfl, rfl, AM.out⟩
              case round => as_aux_lemma =>
                clear AM
                obtain ⟨b, hb, rfl, rfl, rfl, hM⟩ := hrel
                obtain ⟨k, hk⟩ : ∃ k, k = cn dm b := ⟨_, rfl⟩
                have hkb : k ≤ b := by rw [hk]; exact cn_le dm b
                rw [← hk]
                have HK : Aside (k = cn dm b) := hk
                have A : Aside (MZ w wr n L b1 ad bp bq bs b3 b4 bR B pf pr sf sc pre post span S ∧ Bools wr bA n SA) := hM
                clear hk hM hKe
                by_cases hbn : b < n
                · have gRa : wr.cell? ⟨bR, a, none⟩ = some (.bool true) := by rw [← HQ.out.2.2.1]; exact A.out.1.aR.cell hlt
                  have gpa : wr.cell? ⟨bp, a, none⟩ = some (.int .i32 (px : Int)) := by rw [← HQ.out.1]; exact A.out.1.ap.cell hlt
                  have gqa : wr.cell? ⟨bq, a, none⟩ = some (.int .i32 (qx : Int)) := by rw [← HQ.out.2.1]; exact A.out.1.aq.cell hlt
                  by_cases hSb : S b = true
                  · obtain ⟨pb, hpb⟩ : ∃ pb : Nat, pre b = (pb : Int) := ⟨(pre b).toNat, by have := HA.out.rng b hbn hSb; omega⟩
                    have hpbn : pb ≤ 4096 := by have h1 := HA.out.rng b hbn hSb; have h2 := cn_le S n; omega
                    have gRb : wr.cell? ⟨bR, b, none⟩ = some (.bool true) := by rw [← hSb]; exact A.out.1.aR.cell hbn
                    have gpb : wr.cell? ⟨bp, b, none⟩ = some (.int .i32 (pb : Int)) := by rw [← hpb]; exact A.out.1.ap.cell hbn
                    have hdom := HA.out.dom a b hlt hbn HQ.out.2.2.1 hSb
                    rw [HQ.out.1, HQ.out.2.1, hpb] at hdom
                    have HDb : Aside (dm b = true ↔ (px ≤ pb ∧ pb < qx)) := by
                      show dm b = true ↔ (px ≤ pb ∧ pb < qx)
                      rw [HQ.out.2.2.2 b, hpb]
                      omega
                    clear hSb hpb
                    by_cases hab : a = b
                    · have hg2 : px ≤ pb ∧ pb < qx := by
                        have := hdom.2 (.inl hab)
                        omega
                      obtain ⟨hg3, hg4⟩ := hg2
                      have HDv : Aside (dm b = true) := HDb.out.2 ⟨hg3, hg4⟩
                      have hab2 : ((a : Int) == (b : Int)) = true := by simp; omega
                      clear hab hdom HDb
                      go_wp2_with fail
                      go_quiet (fail)
                      have A1 : Aside (MZ w (wr.drewN nq) n L b1 ad bp bq bs b3 b4 bR B pf pr sf sc pre post span S ∧ Bools (wr.drewN nq) bA n SA) := ⟨A.out.1.drewN _, A.out.2⟩
                      clear A gRa gpa gqa gRb gpb
                      generalize wr.drewN nq = wr at A1 ⊢
                      go_wp2
                      go_roundg (n - (b + 1))
                      case rel =>
                        go_light
                        have e : cn dm (b + 1) = k + 1 := by
                          have hd := HDv.out
                          rw [HK.out]
                          simp only [cn, hd]
                          rfl
                        exact ⟨b + 1, by omega, rfl, by rw [e]; go_num, by go_num, A1.out⟩
                      case measure => go_light; omega
                    · have hab2 : ((a : Int) == (b : Int)) = false := by simp; omega
                      have HAB : Aside (a ≠ b) := hab
                      clear hab
                      by_cases hSAb : SA b = true
                      · have gSA : wr.cell? ⟨bA, b, none⟩ = some (.bool true) := by rw [← hSAb]; exact A.out.2.cell hbn
                        have hno : ¬ (px ≤ pb ∧ pb < qx) := by
                          intro h
                          rcases hdom.1 ⟨by omega, by omega⟩ with c | c | c
                          · exact HAB.out c
                          · exact HAS.out c
                          · exact c ((HSA.out b hbn).1 hSAb)
                        have HDv : Aside (dm b = false) := Bool.eq_false_iff.2 (fun c => hno (HDb.out.1 c))
                        clear hdom HDb hSAb
                        by_cases hple : px ≤ pb
                        · have hql : qx ≤ pb := by omega
                          clear hno
                          go_wp2_with fail
                          go_quiet (fail)
                          have A1 : Aside (MZ w (wr.drewN nq) n L b1 ad bp bq bs b3 b4 bR B pf pr sf sc pre post span S ∧ Bools (wr.drewN nq) bA n SA) := ⟨A.out.1.drewN _, A.out.2⟩
                          clear A gRa gpa gqa gRb gpb gSA
                          generalize wr.drewN nq = wr at A1 ⊢
                          go_wp2
                          go_roundg (n - (b + 1))
                          case rel =>
                            go_light
                            have e : cn dm (b + 1) = k := by
                              have hd := HDv.out
                              rw [HK.out]
                              simp only [cn, hd]
                              rfl
                            exact ⟨b + 1, by omega, rfl, by rw [e], by go_num, A1.out⟩
                          case measure => go_light; omega
                        · have hneg : ((px : Int) ≤ (pb : Int)) = False := by simp; omega
                          have hneg2 : decide ((px : Int) ≤ (pb : Int)) = false := by simp; omega
                          clear hno hple
                          go_wp2_with fail
                          go_quiet (fail)
                          have A1 : Aside (MZ w (wr.drewN nq) n L b1 ad bp bq bs b3 b4 bR B pf pr sf sc pre post span S ∧ Bools (wr.drewN nq) bA n SA) := ⟨A.out.1.drewN _, A.out.2⟩
                          clear A gRa gpa gqa gRb gpb gSA
                          generalize wr.drewN nq = wr at A1 ⊢
                          go_wp2
                          go_roundg (n - (b + 1))
                          case rel =>
                            go_light
                            have e : cn dm (b + 1) = k := by
                              have hd := HDv.out
                              rw [HK.out]
                              simp only [cn, hd]
                              rfl
                            exact ⟨b + 1, by omega, rfl, by rw [e], by go_num, A1.out⟩
                          case measure => go_light; omega
                      · have hSAf : SA b = false := Bool.eq_false_iff.2 hSAb
                        have gSA : wr.cell? ⟨bA, b, none⟩ = some (.bool false) := by rw [← hSAf]; exact A.out.2.cell hbn
                        have hg2 : px ≤ pb ∧ pb < qx := by
                          have := hdom.2 (.inr (.inr (fun c => hSAb ((HSA.out b hbn).2 c))))
                          omega
                        obtain ⟨hg3, hg4⟩ := hg2
                        have HDv : Aside (dm b = true) := HDb.out.2 ⟨hg3, hg4⟩
                        clear hdom HDb hSAb hSAf
                        go_wp2_with fail
                        go_quiet (fail)
                        have A1 : Aside (MZ w (wr.drewN nq) n L b1 ad bp bq bs b3 b4 bR B pf pr sf sc pre post span S ∧ Bools (wr.drewN nq) bA n SA) := ⟨A.out.1.drewN _, A.out.2⟩
                        clear A gRa gpa gqa gRb gpb gSA
                        generalize wr.drewN nq = wr at A1 ⊢
                        go_wp2
                        go_roundg (n - (b + 1))
                        case rel =>
                          go_light
                          have e : cn dm (b + 1) = k + 1 := by
                            have hd := HDv.out
                            rw [HK.out]
                            simp only [cn, hd]
                            rfl
                          exact ⟨b + 1, by omega, rfl, by rw [e]; go_num, by go_num, A1.out⟩
                        case measure => go_light; omega
                  · have hSb2 : S b = false := Bool.eq_false_iff.2 hSb
                    obtain ⟨e1, e2, e3⟩ := HA.out.off b hbn hSb2
                    have gRb : wr.cell? ⟨bR, b, none⟩ = some (.bool false) := by rw [← hSb2]; exact A.out.1.aR.cell hbn
                    have gpb : wr.cell? ⟨bp, b, none⟩ = some (.int .i32 (-1)) := by rw [← e1]; exact A.out.1.ap.cell hbn
                    have HDv : Aside (dm b = false) := Bool.eq_false_iff.2 (fun c => by have := (HQ.out.2.2.2 b).1 c; omega)
                    have hneg : ((px : Int) ≤ -1) = False := by simp; omega
                    have hneg2 : decide ((px : Int) ≤ -1) = false := by simp; omega
                    clear hSb hSb2 e1 e2 e3
                    go_wp2_with fail
                    go_quiet (fail)
                    have A1 : Aside (MZ w (wr.drewN nq) n L b1 ad bp bq bs b3 b4 bR B pf pr sf sc pre post span S ∧ Bools (wr.drewN nq) bA n SA) := ⟨A.out.1.drewN _, A.out.2⟩
                    clear A gRa gpa gqa gRb gpb
                    generalize wr.drewN nq = wr at A1 ⊢
                    go_wp2
                    go_roundg (n - (b + 1))
                    case rel =>
                      go_light
                      have e : cn dm (b + 1) = k := by
                        have hd := HDv.out
                        rw [HK.out]
                        simp only [cn, hd]
                        rfl
                      exact ⟨b + 1, by omega, rfl, by rw [e], by go_num, A1.out⟩
                    case measure => go_light; omega
                · obtain rfl : b = n := by omega
                  go_wp2
                  go_meet
                  case rel => exact ⟨by rw [HK.out], A.out.1⟩
            obtain ⟨rfl, hM⟩ := hcut
            have AE : Aside (MZ w wc n L b1 ad bp bq bs b3 b4 bR B pf pr sf sc pre post span S) := hM
            obtain ⟨k, hk⟩ : ∃ k, k = cn dm n := ⟨_, rfl⟩
            rw [← hk] at hKe ⊢
            have hqk : qx = px + k := by omega
            have gRa : wc.cell? ⟨bR, a, none⟩ = some (.bool true) := by rw [← HQ.out.2.2.1]; exact AE.out.aR.cell hlt
            have gpa : wc.cell? ⟨bp, a, none⟩ = some (.int .i32 (px : Int)) := by rw [← HQ.out.1]; exact AE.out.ap.cell hlt
            have gqa : wc.cell? ⟨bq, a, none⟩ = some (.int .i32 (qx : Int)) := by rw [← HQ.out.2.1]; exact AE.out.aq.cell hlt
            have hKe3 : (qx : Int) - (px : Int) = (k : Int) := hKe.symm
            clear hM AM hk hKe HQ hqk
            go_wp2_with fail
            go_quiet (fail)
            have AF : Aside (MZ w (wc.drewN nq) n L b1 ad bp bq bs b3 b4 bR B pf pr sf sc pre post span S) := AE.out.drewN _
            clear AE gRa gpa gqa
            generalize wc.drewN nq = wr at AF ⊢
            go_wp2
            go_roundg (n - (a + 1))
            case rel => go_light; exact ⟨a + 1, by omega, rfl, by go_num, AF.out⟩
            case measure => go_light; omega
        · have hSa2 : S a = false := Bool.eq_false_iff.2 hSa
          have e1 : pre a = -1 := (HA.out.off a hlt hSa2).1
          have gRa : wr.cell? ⟨bR, a, none⟩ = some (.bool false) := by rw [← hSa2]; exact A0.out.aR.cell hlt
          have HQ : Aside (pre a = -1 ∧ S a = false) := ⟨e1, hSa2⟩
          clear hSa hSa2 e1
          go_upto_block 10 with fail
          clear gRa
          go_cut [24] (fun s24 wx => MZ w wx n L b1 ad bp bq bs b3 b4 bR B pf pr sf sc pre post span S)
          case first => as_aux_lemma =>
            go_wp2_with fail
            go_loopg [24, 25] n (fun g s24 s25 wr => ∃ b : Nat, b ≤ n ∧ g = n - b ∧ s24 = .int .i32 0 ∧ s25 = .int .i64 b ∧ MZ w wr n L b1 ad bp bq bs b3 b4 bR B pf pr sf sc pre post span S)
            case atStart => exact ⟨0, Nat.zero_le _, rfl, rfl, rfl, A0.out⟩
            case round => as_aux_lemma =>
              clear A0
              obtain ⟨b, hb, rfl, rfl, rfl, hM⟩ := hrel
              have A : Aside (MZ w wr n L b1 ad bp bq bs b3 b4 bR B pf pr sf sc pre post span S) := hM
              clear hM
              by_cases hbn : b < n
              · have gRa : wr.cell? ⟨bR, a, none⟩ = some (.bool false) := by rw [← HQ.out.2]; exact A.out.aR.cell hlt
                have gpa : wr.cell? ⟨bp, a, none⟩ = some (.int .i32 (-1)) := by rw [← HQ.out.1]; exact A.out.ap.cell hlt
                go_wp2_with fail
                go_quiet (fail)
                have A1 : Aside (MZ w (wr.drewN nq) n L b1 ad bp bq bs b3 b4 bR B pf pr sf sc pre post span S) := A.out.drewN _
                clear A gRa gpa
                generalize wr.drewN nq = wr at A1 ⊢
                go_wp2
                go_roundg (n - (b + 1))
                case rel => go_light; exact ⟨b + 1, by omega, rfl, rfl, by go_num, A1.out⟩
                case measure => go_light; omega
              · obtain rfl : b = n := by omega
                go_wp2
                go_meet
                case rel => exact A.out
          have AE : Aside (MZ w wc n L b1 ad bp bq bs b3 b4 bR B pf pr sf sc pre post span S) := hcut
          have gRa : wc.cell? ⟨bR, a, none⟩ = some (.bool false) := by rw [← HQ.out.2]; exact AE.out.aR.cell hlt
          clear hcut A0
          go_wp2_with fail
          go_quiet (fail)
          have AF : Aside (MZ w (wc.drewN nq) n L b1 ad bp bq bs b3 b4 bR B pf pr sf sc pre post span S) := AE.out.drewN _
          clear AE gRa
          generalize wc.drewN nq = wr at AF ⊢
          go_wp2
          go_roundg (n - (a + 1))
          case rel => go_light; exact ⟨a + 1, by omega, rfl, by go_num, AF.out⟩
          case measure => go_light; omega
      · obtain rfl : a = n := by omega
        go_wp2
        go_meet
        case rel => exact A0.out
  have HM4 : Aside (MZ w wc n L b1 ad bp bq bs b3 b4 bR B pf pr sf sc pre post span S) := hcut
  clear hcut HM3
  go_wp2
  go_ret
  exact ⟨rfl, HM4.out.bel⟩
end Go.Proofs.Qxb6602963a
