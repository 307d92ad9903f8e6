import Derived.Test.Qxb6602963aCyc
namespace Go.Proofs.Qxb6602963a
open Go.RowKit
set_option linter.unusedVariables false

def nat (z : Nat → Int) : Nat → Nat := fun i => (z i).toNat

def Rng (L : Nat) (zl zr zu : Nat → Int) (k : Nat) : Prop := ∀ i, 0 < i → i < k → (0 ≤ zl i ∧ zl i < L) ∧ (0 ≤ zr i ∧ zr i < L) ∧ (0 ≤ zu i ∧ zu i < L)

def Kids (zl zr zu : Nat → Int) (k : Nat) : Prop := ∀ i, 0 < i → i < k → (zl i ≠ 0 → zu (zl i).toNat = i) ∧ (zr i ≠ 0 → zu (zr i).toNat = i) ∧ (zl i ≠ 0 → zl i ≠ zr i)

/-- what zzLcOK asks -/
structure Good (n0 n1 n2 : Nat) (zl zr zu : Nat → Int) : Prop where
  pos : 1 ≤ n0
  e1 : n1 = n0
  e2 : n2 = n0
  rng : Rng n0 zl zr zu n0
  kids : Kids zl zr zu n0
  acy : Acy (nat zu) n0

theorem Good.ok {n0 n1 n2 : Nat} {zl zr zu : Nat → Int} (h : Good n0 n1 n2 zl zr zu) : OK (nat zl) (nat zr) (nat zu) n0 := by
  refine ⟨?_, ?_, ?_, ?_, ?_, ?_, h.acy⟩
  · intro v hv; have := h.rng v hv.1 hv.2; simp only [nat]; omega
  · intro v hv; have := h.rng v hv.1 hv.2; simp only [nat]; omega
  · intro v hv; have := h.rng v hv.1 hv.2; simp only [nat]; omega
  · intro v hv hl
    have h1 := h.rng v hv.1 hv.2
    have h2 := (h.kids v hv.1 hv.2).1 (by simp only [nat] at hl; omega)
    simp only [nat] at *; omega
  · intro v hv hl
    have h1 := h.rng v hv.1 hv.2
    have h2 := (h.kids v hv.1 hv.2).2.1 (by simp only [nat] at hl; omega)
    simp only [nat] at *; omega
  · intro v hv hl
    have h1 := h.rng v hv.1 hv.2
    have h2 := (h.kids v hv.1 hv.2).2.2 (by simp only [nat] at hl; omega)
    simp only [nat] at *; omega

def LcPost (n0 n1 n2 : Nat) (zl zr zu : Nat → Int) (w : World) (e : Ending) (w' : World) : Prop :=
  ∃ b, e = .returned (.bool b) ∧ Below w.heap.size w w' ∧ (b = true ↔ Good n0 n1 n2 zl zr zu)

theorem lc_no {n0 n1 n2 : Nat} {zl zr zu : Nat → Int} {w w' : World} (hb : Below w.heap.size w w') (h : ¬ Good n0 n1 n2 zl zr zu) : LcPost n0 n1 n2 zl zr zu w (.returned (.bool false)) w' :=
  ⟨false, rfl, hb, by simp [h]⟩

structure LcW (w wr : World) (L : Nat) (st pa : Nat → Nat) : Prop where
  bel : Below w.heap.size w wr
  size : w.heap.size + 1 < wr.heap.size
  rs : wr.rowIs w.heap.size 40 L (fun j => .int .i8 (st j))
  rp : wr.rowIs (w.heap.size + 1) 21 L (fun j => .int .i32 (pa j))

theorem lcw_start (w : World) (L : Nat) : LcW w ((w.alloc (.cells (madeCells #[.int .i8 0] L) 40)).alloc (.cells (madeCells #[.int .i32 0] L) 21)) L (fun _ => 0) (fun _ => 0) := by
  refine ⟨((Below.refl _ _).alloc (Nat.le_refl _) _).alloc (by simp) _, by simp, (World.rowIs_made w _ L 40).alloc _, ?_⟩
  have h := World.rowIs_made (w.alloc (.cells (madeCells #[.int .i8 0] L) 40)) (.int .i32 0) L 21
  simp only [World.size_alloc] at h
  exact h

theorem LcW.setS {w wr : World} {L : Nat} {st pa : Nat → Nat} (h : LcW w wr L st pa) (i c : Nat) : LcW w (wr.setCell ⟨w.heap.size, i, none⟩ (.int .i8 (c : Int))) L (upd st i c) pa :=
  ⟨h.bel.setCell (by simp) _, by simpa using h.size, row_upd (c := fun n : Nat => .int .i8 (n : Int)) h.rs c, h.rp.setOther (by simp) _⟩
theorem LcW.setP {w wr : World} {L : Nat} {st pa : Nat → Nat} (h : LcW w wr L st pa) (i c : Nat) : LcW w (wr.setCell ⟨w.heap.size + 1, i, none⟩ (.int .i32 (c : Int))) L st (upd pa i c) :=
  ⟨h.bel.setCell (by simp) _, by simpa using h.size, h.rs.setOther (by simp) _, row_upd (c := fun n : Nat => .int .i32 (n : Int)) h.rp c⟩

set_option maxHeartbeats 4000000 in
set_option maxRecDepth 100000 in
theorem lcOk9 (a0 a1 a2 : Option Addr) (n0 n1 n2 c0 c1 c2 : Nat) (zl zr zu : Nat → Int) (w : World) (h0 : n0 ≤ 65536) (h1 : n1 ≤ 65536) (h2 : n2 ≤ 65536)
    (r0 : Reads w a0 n0 (fun i => .int .i32 (zl i))) (r1 : Reads w a1 n1 (fun i => .int .i32 (zr i))) (r2 : Reads w a2 n2 (fun i => .int .i32 (zu i)))
    (b0 : ∀ i, i < n0 → -2147483648 ≤ zl i ∧ zl i ≤ 2147483647) (b1 : ∀ i, i < n1 → -2147483648 ≤ zr i ∧ zr i ≤ 2147483647) (b2 : ∀ i, i < n2 → -2147483648 ≤ zu i ∧ zu i ≤ 2147483647) :
    Calls Try.prog 9 #[.slice a0 n0 c0, .slice a1 n1 c1, .slice a2 n2 c2] w fun e w' => LcPost n0 n1 n2 zl zr zu w e w' := by
  by_cases t0 : n0 < 1
  · go_enter Try.func9, Try.ntmps9
    go_wp2
    go_ret
    exact lc_no (Below.refl _ _) (fun h => by have := h.pos; omega)
  by_cases t1 : n1 = n0
  rotate_left
  · go_enter Try.func9, Try.ntmps9
    go_wp2
    go_ret
    exact lc_no (Below.refl _ _) (fun h => t1 h.e1)
  subst t1
  by_cases t2 : n2 = n1
  rotate_left
  · have t2' : ((n2 : Int) != (n1 : Int)) = true := by simp; omega
    go_enter Try.func9, Try.ntmps9
    go_wp2
    go_ret
    exact lc_no (Below.refl _ _) (fun h => t2 h.e2)
  subst t2
  clear h1 h2
  obtain ⟨p0, o0, rfl, G0⟩ := r0 (by omega)
  obtain ⟨p1, o1, rfl, G1⟩ := r1 (by omega)
  obtain ⟨p2, o2, rfl, G2⟩ := r2 (by omega)
  have G : Aside ((∀ i, i < n2 → w.cell? ⟨p0, o0 + i, none⟩ = some (.int .i32 (zl i))) ∧ (∀ i, i < n2 → w.cell? ⟨p1, o1 + i, none⟩ = some (.int .i32 (zr i))) ∧ (∀ i, i < n2 → w.cell? ⟨p2, o2 + i, none⟩ = some (.int .i32 (zu i)))) := ⟨G0, G1, G2⟩
  have B : Aside ((∀ i, i < n2 → -2147483648 ≤ zl i ∧ zl i ≤ 2147483647) ∧ (∀ i, i < n2 → -2147483648 ≤ zr i ∧ zr i ≤ 2147483647) ∧ (∀ i, i < n2 → -2147483648 ≤ zu i ∧ zu i ≤ 2147483647)) := ⟨b0, b1, b2⟩
  clear G0 G1 G2 r0 r1 r2 b0 b1 b2
  have mk39 := run_make_row' (P := Try.prog) 39 40 (.int .i8 0) 1 Try.underlying39 Try.info40 rfl .i64 .i64 n2 (by omega) (by omega)
  have mk22 := run_make_row' (P := Try.prog) 22 21 (.int .i32 0) 4 Try.underlying22 Try.info21 rfl .i64 .i64 n2 (by omega) (by omega)
  have MK : Aside ((∀ w, (Instr.makeSlice 39 (.int .i64 (n2 : Int)) (.int .i64 (n2 : Int))).run Try.prog w = .ok (.slice (some ⟨w.heap.size, 0, none⟩) n2 n2) (w.alloc (.cells (madeCells #[.int .i8 0] n2) 40))) ∧
      (∀ w, (Instr.makeSlice 22 (.int .i64 (n2 : Int)) (.int .i64 (n2 : Int))).run Try.prog w = .ok (.slice (some ⟨w.heap.size, 0, none⟩) n2 n2) (w.alloc (.cells (madeCells #[.int .i32 0] n2) 21)))) := ⟨mk39, mk22⟩
  clear mk39 mk22
  go_enter Try.func9, Try.ntmps9
  go_wp2
  go_loopg [8] (n2 - 1) (fun g i wr => ∃ k : Nat, 1 ≤ k ∧ k ≤ n2 ∧ g = n2 - k ∧ i = .int .i64 k ∧ wr = w ∧ Rng n2 zl zr zu k)
  case atStart => exact ⟨1, Nat.le_refl _, by omega, by omega, rfl, rfl, fun i h0 h1 => by omega⟩
  case round =>
    obtain ⟨k, hk1, hk, rfl, rfl, rfl, hall⟩ := hrel
    have A : Aside (Rng n2 zl zr zu k) := hall
    clear hall
    by_cases hlt : k < n2
    · have g0 := G.out.1 k hlt
      have g1 := G.out.2.1 k hlt
      have g2 := G.out.2.2 k hlt
      obtain ⟨x0, x1⟩ := B.out.1 k hlt
      obtain ⟨y0, y1⟩ := B.out.2.1 k hlt
      obtain ⟨v0, v1⟩ := B.out.2.2 k hlt
      generalize hl : zl k = lk at g0 x0 x1
      generalize hr : zr k = rk at g1 y0 y1
      generalize hu : zu k = uk at g2 v0 v1
      have E : Aside (zl k = lk ∧ zr k = rk ∧ zu k = uk) := ⟨hl, hr, hu⟩
      clear hl hr hu
      by_cases s0 : lk < 0
      · go_wp2
        go_ret
        exact lc_no (Below.refl _ _) (fun h => by have := h.rng k (by omega) hlt; rw [E.out.1] at this; omega)
      by_cases s1 : (n2 : Int) ≤ lk
      · go_wp2
        go_ret
        exact lc_no (Below.refl _ _) (fun h => by have := h.rng k (by omega) hlt; rw [E.out.1] at this; omega)
      by_cases s2 : rk < 0
      · go_wp2
        go_ret
        exact lc_no (Below.refl _ _) (fun h => by have := h.rng k (by omega) hlt; rw [E.out.2.1] at this; omega)
      by_cases s3 : (n2 : Int) ≤ rk
      · go_wp2
        go_ret
        exact lc_no (Below.refl _ _) (fun h => by have := h.rng k (by omega) hlt; rw [E.out.2.1] at this; omega)
      by_cases s4 : uk < 0
      · go_wp2
        go_ret
        exact lc_no (Below.refl _ _) (fun h => by have := h.rng k (by omega) hlt; rw [E.out.2.2] at this; omega)
      by_cases s5 : (n2 : Int) ≤ uk
      · go_wp2
        go_ret
        exact lc_no (Below.refl _ _) (fun h => by have := h.rng k (by omega) hlt; rw [E.out.2.2] at this; omega)
      go_wp2
      go_roundg (n2 - (k + 1))
      case rel =>
        go_light
        refine ⟨k + 1, by omega, by omega, rfl, by go_num, rfl, fun i hi0 hi => ?_⟩
        by_cases hik : i = k
        · subst hik
          rw [E.out.1, E.out.2.1, E.out.2.2]
          omega
        · exact A.out i hi0 (by omega)
      case measure => go_light; omega
    · obtain rfl : k = n2 := by omega
      go_wp2
      have H : Aside (Rng k zl zr zu k) := A.out
      clear A
      go_loopg [9] (k - 1) (fun g i wx => ∃ m : Nat, 1 ≤ m ∧ m ≤ k ∧ g = k - m ∧ i = .int .i64 m ∧ wx = wr ∧ Kids zl zr zu m)
      case atStart => exact ⟨1, Nat.le_refl _, by omega, by omega, rfl, rfl, fun i h0 h1 => by omega⟩
      case round =>
        obtain ⟨m, hm1, hm, rfl, rfl, hw, hall⟩ := hrel
        subst hw
        have A : Aside (Kids zl zr zu m) := hall
        clear hall
        by_cases hlt : m < k
        · have g0 := G.out.1 m hlt
          have g1 := G.out.2.1 m hlt
          obtain ⟨⟨x0, x1⟩, ⟨y0, y1⟩, _⟩ := H.out m (by omega) hlt
          generalize hl : zl m = lk at g0 x0 x1
          generalize hr : zr m = rk at g1 y0 y1
          have gl := G.out.2.2 lk.toNat (by omega)
          have gr := G.out.2.2 rk.toNat (by omega)
          obtain ⟨ul0, ul1⟩ := B.out.2.2 lk.toNat (by omega)
          obtain ⟨ur0, ur1⟩ := B.out.2.2 rk.toNat (by omega)
          generalize hul : zu lk.toNat = ul at gl ul0 ul1
          generalize hur : zu rk.toNat = ur at gr ur0 ur1
          have E : Aside (zl m = lk ∧ zr m = rk ∧ zu lk.toNat = ul ∧ zu rk.toNat = ur) := ⟨hl, hr, hul, hur⟩
          clear hl hr hul hur
          have no : ∀ (P : Prop), (P → False) → (Good k k k zl zr zu → P) → ¬ Good k k k zl zr zu := fun P h1 h2 h3 => h1 (h2 h3)
          by_cases l0 : lk = 0
          · subst l0
            by_cases q0 : rk = 0
            · subst q0
              clear gl gr
              go_wp2
              go_roundg (k - (m + 1))
              case rel =>
                go_light
                refine ⟨m + 1, by omega, by omega, rfl, by go_num, rfl, fun i hi0 hi => ?_⟩
                by_cases hik : i = m
                · subst hik
                  rw [E.out.1, E.out.2.1]
                  exact ⟨fun h => absurd rfl h, fun h => absurd rfl h, fun h => absurd rfl h⟩
                · exact A.out i hi0 (by omega)
              case measure => go_light; omega
            · clear gl
              by_cases q1 : ur = m
              · subst q1
                go_wp2
                go_roundg (k - (m + 1))
                case rel =>
                  go_light
                  refine ⟨m + 1, by omega, by omega, rfl, by go_num, rfl, fun i hi0 hi => ?_⟩
                  by_cases hik : i = m
                  · subst hik
                    rw [E.out.1, E.out.2.1, E.out.2.2.2]
                    exact ⟨fun h => absurd rfl h, fun h => rfl, fun h => absurd rfl h⟩
                  · exact A.out i hi0 (by omega)
                case measure => go_light; omega
              · have q1' : (ur != (m : Int)) = true := by simpa using q1
                go_wp2
                go_ret
                exact lc_no (Below.refl _ _) (fun h => by have := (h.kids m (by omega) hlt).2.1; rw [E.out.2.1, E.out.2.2.2] at this; exact q1 (this q0))
          · by_cases l1 : ul = m
            · subst l1
              by_cases q0 : rk = 0
              · subst q0
                clear gr
                have l0' : (lk == (0 : Int)) = false := by simpa using l0
                go_wp2
                go_roundg (k - (m + 1))
                case rel =>
                  go_light
                  refine ⟨m + 1, by omega, by omega, rfl, by go_num, rfl, fun i hi0 hi => ?_⟩
                  by_cases hik : i = m
                  · subst hik
                    rw [E.out.1, E.out.2.1, E.out.2.2.1]
                    exact ⟨fun h => rfl, fun h => absurd rfl h, fun h => h⟩
                  · exact A.out i hi0 (by omega)
                case measure => go_light; omega
              · by_cases q1 : ur = m
                · subst q1
                  by_cases q2 : lk = rk
                  · subst q2
                    clear gr
                    go_wp2
                    go_ret
                    exact lc_no (Below.refl _ _) (fun h => by have := (h.kids m (by omega) hlt).2.2; rw [E.out.1, E.out.2.1] at this; exact this l0 rfl)
                  · have q2' : (lk == rk) = false := by simpa using q2
                    go_wp2
                    go_roundg (k - (m + 1))
                    case rel =>
                      go_light
                      refine ⟨m + 1, by omega, by omega, rfl, by go_num, rfl, fun i hi0 hi => ?_⟩
                      by_cases hik : i = m
                      · subst hik
                        rw [E.out.1, E.out.2.1, E.out.2.2.1, E.out.2.2.2]
                        exact ⟨fun h => rfl, fun h => rfl, fun h => q2⟩
                      · exact A.out i hi0 (by omega)
                    case measure => go_light; omega
                · have q1' : (ur != (m : Int)) = true := by simpa using q1
                  go_wp2
                  go_ret
                  exact lc_no (Below.refl _ _) (fun h => by have := (h.kids m (by omega) hlt).2.1; rw [E.out.2.1, E.out.2.2.2] at this; exact q1 (this q0))
            · clear gr
              have l1' : (ul != (m : Int)) = true := by simpa using l1
              go_wp2
              go_ret
              exact lc_no (Below.refl _ _) (fun h => by have := (h.kids m (by omega) hlt).1; rw [E.out.1, E.out.2.2.1] at this; exact l1 (this l0))
        · obtain rfl : m = k := by omega
          obtain ⟨mk39, mk22⟩ := MK.out
          go_wp2
          clear mk39 mk22
          obtain ⟨wo, rfl⟩ : ∃ wo : World, wo = wr := ⟨_, rfl⟩
          have K : Aside (Kids zl zr zu m) := A.out
          clear A
          have hbu : Aside (∀ v, Vx m v → nat zu v < m) := fun v hv => by have := H.out v hv.1 hv.2; simp only [nat]; omega
          go_loopg [14] (m - 1) (fun g i wy => ∃ (v : Nat) (st pa : Nat → Nat), 1 ≤ v ∧ v ≤ m ∧ g = m - v ∧ i = .int .i64 v ∧ LcW wo wy m st pa ∧ Out (nat zu) m st v)
          case atStart => exact ⟨1, _, _, Nat.le_refl _, by omega, rfl, rfl, lcw_start wo m, out_start _ _⟩
          case round =>
            obtain ⟨v, st, pa, hv1, hv, rfl, rfl, hW, hO⟩ := hrel
            obtain ⟨wv, rfl⟩ : ∃ wv : World, wv = wr := ⟨_, rfl⟩
            by_cases hlt : v < m
            · have hvz : (v : Int) < (m : Int) := by omega
              have hsv := hW.rs.cell hlt
              by_cases hs0 : st v = 0
              · rw [hs0] at hsv
                have W0 : Aside (LcW wo wv m st pa ∧ Out (nat zu) m st v) := ⟨hW, hO⟩
                clear hW hO
                go_wp2
                go_loopg [15, 16] (zc st m) (fun g kk xx wy => ∃ (k x : Nat) (st' pa' : Nat → Nat), g = zc st' m ∧ kk = .int .i64 k ∧ xx = .int .i32 x ∧ k ≤ m ∧ LcW wo wy m st' pa' ∧ Up (nat zu) m v st st' pa' k x)
                case atStart => exact ⟨0, v, st, pa, rfl, rfl, rfl, by omega, W0.out.1, up_start W0.out.2 ⟨by omega, hlt⟩⟩
                case round =>
                  obtain ⟨k, x, st', pa', rfl, rfl, rfl, hkm, hW, hU⟩ := hrel
                  have hxm := hU.xL
                  by_cases hx0 : x = 0
                  · subst hx0
                    have W1 : Aside (LcW wo wr m st' pa' ∧ Up (nat zu) m v st st' pa' k 0) := ⟨hW, hU⟩
                    clear hW hU
                    go_wp2
                    go_loopg [17] k (fun g jj wy => ∃ (j : Nat) (st2 : Nat → Nat), j ≤ k ∧ g = k - j ∧ jj = .int .i64 j ∧ LcW wo wy m st2 pa' ∧ Mk m st' st2 pa' j)
                    case atStart => exact ⟨0, st', by omega, rfl, rfl, W1.out.1, mk_start _ _ _⟩
                    case round =>
                      obtain ⟨j, st2, hjk, rfl, rfl, hW2, hM⟩ := hrel
                      by_cases hjl : j < k
                      · have hjz : (j : Int) < (k : Int) := by omega
                        have hpj := (W1.out.2.path j hjl).2
                        have hpc := hW2.rp.cell (i := j) (by omega)
                        have hsc := hW2.rs.cell hpj.2
                        have f0 := hW2.rs.frozen (pa' j)
                        have hpz : ((pa' j : Nat) : Int) < (m : Int) := by have := hpj.2; omega
                        have W2 : Aside (LcW wo wr m st2 pa' ∧ Mk m st' st2 pa' j) := ⟨hW2, hM⟩
                        clear hW2 hM hpj
                        go_wp2
                        go_roundg (k - (j + 1))
                        case rel =>
                          go_light
                          exact ⟨j + 1, upd st2 (pa' j) 2, by omega, rfl, by go_num, W2.out.1.setS _ 2, mk_step W2.out.2⟩
                        case measure => go_light; omega
                      · obtain rfl : j = k := by omega
                        have W2 : Aside (LcW wo wr m st2 pa' ∧ Mk m st' st2 pa' j) := ⟨hW2, hM⟩
                        clear hW2 hM
                        go_wp2
                        go_roundg (m - (v + 1))
                        case rel =>
                          go_light
                          exact ⟨v + 1, st2, pa', by omega, by omega, rfl, by go_num, W2.out.1, out_step W0.out.2 ⟨by omega, hlt⟩ hs0 W1.out.2 (.inl rfl) W2.out.2⟩
                        case measure => go_light; omega
                  · have hsx := hW.rs.cell hU.xL
                    have hux : wr.cell? ⟨p2, o2 + x, none⟩ = some (.int .i32 (zu x)) := cell_later hW.bel (G.out.2.2 x hxm)
                    have hrx := H.out x (by omega) hxm
                    by_cases hsx0 : st' x = 0
                    · obtain ⟨hk1, hz⟩ := up_lt hU hx0 hsx0
                      rw [hsx0] at hsx
                      have hpc := hW.rp.cell (i := k) (by omega)
                      have f0 := hW.rs.frozen x
                      have f1 := hW.rp.frozen k
                      have hlt2 : p2 < wo.heap.size := World.block_lt_of_cell? _ _ (G.out.2.2 x hxm)
                      have W1 : Aside (LcW wo wr m st' pa' ∧ Up (nat zu) m v st st' pa' k x) := ⟨hW, hU⟩
                      clear hW hU
                      have hxz : (x : Int) < (m : Int) := by omega
                      have hxn : ((x : Int) != 0) = true := by simp; omega
                      obtain ⟨_, _, hu0, hu1⟩ := hrx
                      generalize hzu : zu x = ux at hux hu0 hu1
                      have EU : Aside (zu x = ux) := hzu
                      clear hzu
                      go_wp2
                      go_roundg (zc (upd st' x 1) m)
                      case rel =>
                        go_light
                        have hU2 := up_step W1.out.2 hbu.out hx0 hsx0
                        have hW2 := (W1.out.1.setS x 1).setP k x
                        refine ⟨k + 1, nat zu x, upd st' x 1, upd pa' k x, rfl, by go_num, ?_, by omega, hW2, hU2⟩
                        simp only [nat]; rw [EU.out]; rw [Int.toNat_of_nonneg hu0]
                      case measure => go_light; exact hz
                    · have hxz : (x : Int) < (m : Int) := by omega
                      have hxn : ((x : Int) != 0) = true := by simp; omega
                      have hsz : (((st' x : Nat) : Int) == 0) = false := by simp; omega
                      by_cases hsx1 : st' x = 1
                      · rw [hsx1] at hsx
                        have hno := up_cycle hU hx0 hsx1
                        have hbel := hW.bel
                        clear hW hU hux hrx
                        go_wp2
                        go_ret
                        exact lc_no hbel (fun h => hno h.acy)
                      · have hsz1 : (((st' x : Nat) : Int) == 1) = false := by simp; omega
                        have W1 : Aside (LcW wo wr m st' pa' ∧ Up (nat zu) m v st st' pa' k x) := ⟨hW, hU⟩
                        have hxx : Aside (x = 0 ∨ (st' x ≠ 0 ∧ st' x ≠ 1)) := .inr ⟨hsx0, hsx1⟩
                        clear hW hU hux hrx
                        go_wp2
                        go_loopg [17] k (fun g jj wy => ∃ (j : Nat) (st2 : Nat → Nat), j ≤ k ∧ g = k - j ∧ jj = .int .i64 j ∧ LcW wo wy m st2 pa' ∧ Mk m st' st2 pa' j)
                        case atStart => exact ⟨0, st', by omega, rfl, rfl, W1.out.1, mk_start _ _ _⟩
                        case round =>
                          obtain ⟨j, st2, hjk, rfl, rfl, hW2, hM⟩ := hrel
                          by_cases hjl : j < k
                          · have hjz : (j : Int) < (k : Int) := by omega
                            have hpj := (W1.out.2.path j hjl).2
                            have hpc := hW2.rp.cell (i := j) (by omega)
                            have hsc := hW2.rs.cell hpj.2
                            have f0 := hW2.rs.frozen (pa' j)
                            have hpz : ((pa' j : Nat) : Int) < (m : Int) := by have := hpj.2; omega
                            have W2 : Aside (LcW wo wr m st2 pa' ∧ Mk m st' st2 pa' j) := ⟨hW2, hM⟩
                            clear hW2 hM hpj
                            go_wp2
                            go_roundg (k - (j + 1))
                            case rel =>
                              go_light
                              exact ⟨j + 1, upd st2 (pa' j) 2, by omega, rfl, by go_num, W2.out.1.setS _ 2, mk_step W2.out.2⟩
                            case measure => go_light; omega
                          · obtain rfl : j = k := by omega
                            have W2 : Aside (LcW wo wr m st2 pa' ∧ Mk m st' st2 pa' j) := ⟨hW2, hM⟩
                            clear hW2 hM
                            go_wp2
                            go_roundg (m - (v + 1))
                            case rel =>
                              go_light
                              exact ⟨v + 1, st2, pa', by omega, by omega, rfl, by go_num, W2.out.1, out_step W0.out.2 ⟨by omega, hlt⟩ hs0 W1.out.2 hxx.out W2.out.2⟩
                            case measure => go_light; omega
              · have hsz : (((st v : Nat) : Int) != 0) = true := by simp; omega
                have W0 : Aside (LcW wo wv m st pa ∧ Out (nat zu) m st v) := ⟨hW, hO⟩
                clear hW hO
                go_wp2
                go_roundg (m - (v + 1))
                case rel =>
                  go_light
                  exact ⟨v + 1, st, pa, by omega, by omega, rfl, by go_num, W0.out.1, out_skip W0.out.2 hs0⟩
                case measure => go_light; omega
            · obtain rfl : v = m := by omega
              have hbel := hW.bel
              have hA := out_acy hO hbu.out
              clear hW hO
              go_wp2
              go_ret
              exact ⟨true, rfl, hbel, by simp only [true_iff]; exact ⟨by omega, rfl, rfl, H.out, K.out, hA⟩⟩
end Go.Proofs.Qxb6602963a
