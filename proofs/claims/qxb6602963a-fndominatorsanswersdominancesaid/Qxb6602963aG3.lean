import Derived.Test.Qxb6602963aG2
namespace Go.Proofs.Qxb6602963a
open Go.RowKit
set_option linter.unusedVariables false

/-- a row of numbers of one's own -/
def Nums32 (w : World) (b n : Nat) (f : Nat → Nat) : Prop := w.rowIs b 21 n (fun i => .int .i32 (f i : Int))

theorem Nums32.cell {w : World} {b n : Nat} {f : Nat → Nat} (h : Nums32 w b n f) {i : Nat} (hi : i < n) : w.cell? ⟨b, i, none⟩ = some (.int .i32 (f i : Int)) := World.rowIs.cell h hi
theorem Nums32.upd {w : World} {b n : Nat} {f : Nat → Nat} (h : Nums32 w b n f) (k v : Nat) : Nums32 (w.setCell ⟨b, k, none⟩ (.int .i32 (v : Int))) b n (updN f k v) := by
  refine (World.rowIs.set h k _).congr fun j _ => ?_
  by_cases e : j = k
  · subst e; simp [updN]
  · simp [updN, e]
theorem Nums32.congr {w : World} {b n : Nat} {f g : Nat → Nat} (h : Nums32 w b n f) (e : ∀ i, i < n → f i = g i) : Nums32 w b n g := World.rowIs.congr h fun i hi => by rw [e i hi]
theorem Nums32.other {w : World} {b n : Nat} {f : Nat → Nat} (h : Nums32 w b n f) {a : Addr} (ha : b ≠ a.block) (v : Value) : Nums32 (w.setCell a v) b n f := World.rowIs.setOther h ha v
theorem Nums32.alloc {w : World} {b n : Nat} {f : Nat → Nat} (h : Nums32 w b n f) (o : Obj) : Nums32 (w.alloc o) b n f := World.rowIs.alloc h o
theorem Nums32.made (w : World) (n : Nat) : Nums32 (w.alloc (.cells (madeCells #[.int .i32 0] n) 21)) w.heap.size n (fun _ => 0) := World.rowIs_made w _ n 21

def FwdPost (n L : Nat) (pf pr : Nat → Nat) (w : World) (e : Ending) (w' : World) : Prop :=
  ∃ b3 b4 sf sc, e = .returned (.tuple #[.slice (some ⟨b3, 0, none⟩) (n + 1) (n + 1), .slice (some ⟨b4, 0, none⟩) L L]) ∧ w.heap.size ≤ b3 ∧ w.heap.size ≤ b4 ∧ Nums32 w' b3 (n + 1) sf ∧ Nums32 w' b4 L sc ∧
    Gr n L sf sc ∧ (∀ u v, u < n → v < n → (Go1 sf sc u v ↔ Fits n pf pr u v)) ∧ Below w.heap.size w w'

/-- the counts, as the first loop has them ; as the second has them -/
def cnt1 (pr : Nat → Nat) (K x : Nat) : Nat := if x = 0 then 0 else ce pr (x - 1) K
def cnt2 (pr : Nat → Nat) (L V x : Nat) : Nat := if x ≤ V then cl pr x L else ce pr (x - 1) L

theorem ce_le (pr : Nat → Nat) (u K : Nat) : ce pr u K ≤ K := by
  induction K with
  | zero => exact Nat.le_refl _
  | succ K ih => simp only [ce]; split <;> omega

theorem cnt1_le (pr : Nat → Nat) (K x : Nat) : cnt1 pr K x ≤ K := by
  unfold cnt1
  split
  · omega
  · exact ce_le _ _ _

set_option maxHeartbeats 4000000 in
set_option maxRecDepth 100000 in
theorem forward20 (b1 o1 c1 : Nat) (a2 : Option Addr) (n L c2 : Nat) (pf pr : Nat → Nat) (w : World) (W : Well n L pf pr) (hn : 1 ≤ n) (hn2 : n ≤ 4096) (hL : L ≤ 65536) (h1 : Row w b1 o1 (n + 1) pf) (h2 : Reads w a2 L (fun i => .int .i32 (pr i : Int))) :
    Calls Try.prog 20 #[.int .i64 n, .slice (some ⟨b1, o1, none⟩) (n + 1) c1, .slice a2 L c2] w fun e w' => FwdPost n L pf pr w e w' := by
  have hmk := fun k hk => run_make_row' (P := Try.prog) 22 21 (.int .i32 0) _ Try.underlying22 Try.info21 rfl .i64 .i64 k (show 4 * k ≤ 281474976710656 by omega) (show k ≤ 9223372036854775807 by omega)
  have m1 := hmk (n + 1) (by omega)
  have m2 := hmk n (by omega)
  have m3 := hmk L (by omega)
  rw [show ((n + 1 : Nat) : Int) = (n : Int) + 1 by omega] at m1
  clear hmk
  have HI : Aside (Well n L pf pr ∧ Row w b1 o1 (n + 1) pf ∧ Reads w a2 L (fun i => .int .i32 (pr i : Int))) := ⟨W, h1, h2⟩
  clear W h1 h2
  obtain ⟨R, hR⟩ : ∃ R : Nat → Nat, ∀ i, R i = pr i := ⟨_, fun _ => rfl⟩
  have HR : Aside (∀ i, R i = pr i) := hR
  clear hR
  have HM : Aside (Nums32 (w.alloc (.cells (madeCells #[.int .i32 0] (n + 1)) 21)) w.heap.size (n + 1) (fun _ => 0) ∧ Below w.heap.size w (w.alloc (.cells (madeCells #[.int .i32 0] (n + 1)) 21))) := ⟨Nums32.made w (n + 1), (Below.refl _ _).alloc (Nat.le_refl _) _⟩
  go_enter Try.func20, Try.ntmps20
  go_wp2
  clear m1
  go_loopg [9] L (fun g s9 wr => ∃ K : Nat, K ≤ L ∧ g = L - K ∧ s9 = .int .i64 K ∧ Nums32 wr w.heap.size (n + 1) (cnt1 pr K) ∧ Below w.heap.size w wr ∧ wr.heap.size = w.heap.size + 1)
  case atStart => exact ⟨0, Nat.zero_le _, rfl, rfl, HM.out.1.congr fun i _ => by simp [cnt1, ce], HM.out.2, by simp⟩
  case round =>
    obtain ⟨K, hK, rfl, rfl, hrow, hbel, hsz⟩ := hrel
    by_cases hlt : K < L
    · obtain ⟨b2, o2, rfl, hc2⟩ := HI.out.2.2 (by omega)
      have hRk : R K < n := by rw [HR.out]; exact HI.out.1.lt K hlt
      have g0 : wr.cell? ⟨b2, o2 + K, none⟩ = some (.int .i32 (R K : Int)) := by rw [HR.out]; exact cell_later hbel (hc2 K hlt)
      obtain ⟨q, hq⟩ : ∃ q, q = cnt1 pr K (R K + 1) := ⟨_, rfl⟩
      have hq2 : q ≤ 65536 := by rw [hq]; exact Nat.le_trans (cnt1_le _ _ _) (by omega)
      have g1 : wr.cell? ⟨w.heap.size, R K + 1, none⟩ = some (.int .i32 (q : Int)) := by rw [hq]; exact hrow.cell (by omega)
      have g2 : wr.frozen? ⟨w.heap.size, R K + 1, none⟩ = false := World.rowIs.frozen hrow _
      have A : Aside (Nums32 wr w.heap.size (n + 1) (cnt1 pr K) ∧ Below w.heap.size w wr ∧ q = cnt1 pr K (R K + 1) ∧ wr.heap.size = w.heap.size + 1) := ⟨hrow, hbel, hq, hsz⟩
      clear hrow hbel hq hc2 hsz
      go_wp2
      go_roundg (L - (K + 1))
      case rel =>
        go_light
        refine ⟨K + 1, by omega, rfl, by go_num, ?_, A.out.2.1.setCell (Nat.le_refl _) _, by simpa using A.out.2.2.2⟩
        rw [show ((q : Int) + 1) = ((q + 1 : Nat) : Int) by omega]
        refine (A.out.1.upd (R K + 1) (q + 1)).congr fun x _ => ?_
        by_cases e : x = R K + 1
        · subst e
          rw [updN_same, A.out.2.2.1]
          simp [cnt1, ce, HR.out]
        · rw [updN_ne _ _ e]
          unfold cnt1
          by_cases e2 : x = 0
          · simp [e2]
          · rw [if_neg e2, if_neg e2]
            simp only [ce]
            rw [if_neg (by rw [← HR.out]; omega)]
            rfl
      case measure => go_light; omega
    · obtain rfl : K = L := by omega
      have A : Aside (Nums32 wr w.heap.size (n + 1) (cnt1 pr K) ∧ Below w.heap.size w wr ∧ wr.heap.size = w.heap.size + 1) := ⟨hrow, hbel, hsz⟩
      clear hrow hbel hsz
      go_wp2
      obtain ⟨wo, hwo⟩ : ∃ wo : World, wo = wr := ⟨_, rfl⟩
      go_loopg [10] n (fun g s10 wr => ∃ V : Nat, V ≤ n ∧ g = n - V ∧ s10 = .int .i64 V ∧ Nums32 wr w.heap.size (n + 1) (cnt2 pr K V) ∧ Below w.heap.size w wr ∧ wr.heap.size = w.heap.size + 1)
      case atStart => exact ⟨0, Nat.zero_le _, rfl, rfl, A.out.1.congr fun i _ => by
        unfold cnt1 cnt2
        by_cases e : i = 0
        · subst e; simp [cl_zero]
        · rw [if_neg e, if_neg (by omega)], A.out.2.1, A.out.2.2⟩
      case round =>
        clear hwo A
        obtain ⟨V, hV, rfl, rfl, hrow, hbel, hsz⟩ := hrel
        by_cases hlt : V < n
        · obtain ⟨q, hq⟩ : ∃ q, q = cnt2 pr K V V := ⟨_, rfl⟩
          obtain ⟨q1, hq1⟩ : ∃ q1, q1 = cnt2 pr K V (V + 1) := ⟨_, rfl⟩
          have hqb : q ≤ 65536 := by rw [hq]; unfold cnt2; rw [if_pos (Nat.le_refl _)]; exact Nat.le_trans (cl_le _ _) (by omega)
          have hqb1 : q1 ≤ 65536 := by rw [hq1]; unfold cnt2; rw [if_neg (by omega)]; exact Nat.le_trans (ce_le _ _ _) (by omega)
          have g1 : wr.cell? ⟨w.heap.size, V, none⟩ = some (.int .i32 (q : Int)) := by rw [hq]; exact hrow.cell (by omega)
          have g1' : wr.cell? ⟨w.heap.size, V + 1, none⟩ = some (.int .i32 (q1 : Int)) := by rw [hq1]; exact hrow.cell (by omega)
          have g2 : wr.frozen? ⟨w.heap.size, V + 1, none⟩ = false := World.rowIs.frozen hrow _
          have A : Aside (Nums32 wr w.heap.size (n + 1) (cnt2 pr K V) ∧ Below w.heap.size w wr ∧ q = cnt2 pr K V V ∧ q1 = cnt2 pr K V (V + 1) ∧ wr.heap.size = w.heap.size + 1) := ⟨hrow, hbel, hq, hq1, hsz⟩
          clear hrow hbel hq hq1 hsz
          go_wp2
          all_goals try go_region
          all_goals go_wp2
          go_roundg (n - (V + 1))
          case rel =>
            go_light
            refine ⟨V + 1, by omega, rfl, by go_num, ?_, (A.out.2.1.setCell (Nat.le_refl _) _).drew, by simpa using A.out.2.2.2.2⟩
            rw [show ((q1 : Int) + (q : Int)) = ((q1 + q : Nat) : Int) by omega]
            refine (A.out.1.upd (V + 1) (q1 + q)).congr fun x _ => ?_
            obtain ⟨e3, e4⟩ : q = cnt2 pr K V V ∧ q1 = cnt2 pr K V (V + 1) := ⟨A.out.2.2.1, A.out.2.2.2.1⟩
            unfold cnt2 at e3 e4
            rw [if_pos (Nat.le_refl _)] at e3
            rw [if_neg (by omega), Nat.add_sub_cancel] at e4
            unfold cnt2
            by_cases e : x = V + 1
            · subst e
              rw [updN_same, if_pos (Nat.le_refl _), cl_succ, e3, e4]; omega
            · rw [updN_ne _ _ e]
              by_cases e2 : x ≤ V
              · rw [if_pos e2, if_pos (by omega)]
              · rw [if_neg e2, if_neg (by omega)]
          case measure => go_light; omega
        · obtain rfl : V = n := by omega
          have hrow' : Nums32 wr w.heap.size (V + 1) (fun x => cl pr x K) := hrow.congr fun x hx => by unfold cnt2; rw [if_pos (by omega)]
          have A : Aside (Nums32 (wr.alloc (.cells (madeCells #[.int .i32 0] V) 21)) w.heap.size (V + 1) (fun x => cl pr x K) ∧ Nums32 (wr.alloc (.cells (madeCells #[.int .i32 0] V) 21)) (w.heap.size + 1) V (fun _ => 0) ∧ Below w.heap.size w (wr.alloc (.cells (madeCells #[.int .i32 0] V) 21)) ∧ (wr.alloc (.cells (madeCells #[.int .i32 0] V) 21)).heap.size = w.heap.size + 2) :=
            ⟨hrow'.alloc _, by have := Nums32.made wr V; rw [hsz] at this; exact this, hbel.alloc hbel.size _, by simp [hsz]⟩
          clear hrow hrow' hbel
          go_wp2
          clear hsz m2
          generalize wr.alloc (.cells (madeCells #[.int .i32 0] V) 21) = wr at A ⊢
          obtain ⟨wo2, hwo2⟩ : ∃ wo : World, wo = wr := ⟨_, rfl⟩
          go_loopg [12] V (fun g s12 wr => ∃ x : Nat, x ≤ V ∧ g = V - x ∧ s12 = .int .i64 x ∧ Nums32 wr w.heap.size (V + 1) (fun x => cl pr x K) ∧ Nums32 wr (w.heap.size + 1) V (fun u => if u < x then cl pr u K else 0) ∧ Below w.heap.size w wr ∧ wr.heap.size = w.heap.size + 2)
          case atStart => exact ⟨0, Nat.zero_le _, rfl, rfl, A.out.1, A.out.2.1.congr fun u _ => by simp, A.out.2.2.1, A.out.2.2.2⟩
          case round =>
            clear hwo2 A
            obtain ⟨x, hx, rfl, rfl, hr1, hr2, hbel, hsz⟩ := hrel
            by_cases hlt : x < V
            · obtain ⟨q, hq⟩ : ∃ q, q = cl pr x K := ⟨_, rfl⟩
              have g1 : wr.cell? ⟨w.heap.size, x, none⟩ = some (.int .i32 (q : Int)) := by rw [hq]; exact hr1.cell (by omega)
              have g3 : wr.cell? ⟨w.heap.size + 1, x, none⟩ = some (.int .i32 0) := by have := hr2.cell hlt; rw [if_neg (by omega)] at this; exact this
              have g2 : wr.frozen? ⟨w.heap.size + 1, x, none⟩ = false := World.rowIs.frozen hr2 _
              have A : Aside (Nums32 wr w.heap.size (V + 1) (fun x => cl pr x K) ∧ Nums32 wr (w.heap.size + 1) V (fun u => if u < x then cl pr u K else 0) ∧ Below w.heap.size w wr ∧ wr.heap.size = w.heap.size + 2 ∧ q = cl pr x K) := ⟨hr1, hr2, hbel, hsz, hq⟩
              clear hr1 hr2 hbel hsz hq
              go_wp2
              go_roundg (V - (x + 1))
              case rel =>
                go_light
                refine ⟨x + 1, by omega, rfl, by go_num, A.out.1.other (by simp) _, ?_, A.out.2.2.1.setCell (by simp) _, by simpa using A.out.2.2.2.1⟩
                refine (A.out.2.1.upd x q).congr fun u _ => ?_
                by_cases e : u = x
                · subst e; rw [updN_same, if_pos (by omega)]; exact A.out.2.2.2.2
                · rw [updN_ne _ _ e]
                  by_cases e2 : u < x
                  · rw [if_pos e2, if_pos (by omega)]
                  · rw [if_neg e2, if_neg (by omega)]
              case measure => go_light; omega
            · obtain rfl : x = V := by omega
              have hr2' : Nums32 wr (w.heap.size + 1) x (fun u => cl pr u K) := hr2.congr fun u hu => by rw [if_pos hu]
              have A : Aside (Nums32 (wr.alloc (.cells (madeCells #[.int .i32 0] K) 21)) w.heap.size (x + 1) (fun x => cl pr x K) ∧ Nums32 (wr.alloc (.cells (madeCells #[.int .i32 0] K) 21)) (w.heap.size + 1) x (fun u => cl pr u K) ∧ Nums32 (wr.alloc (.cells (madeCells #[.int .i32 0] K) 21)) (w.heap.size + 2) K (fun _ => 0) ∧ Below w.heap.size w (wr.alloc (.cells (madeCells #[.int .i32 0] K) 21))) :=
                ⟨hr1.alloc _, hr2'.alloc _, by have := Nums32.made wr K; rw [hsz] at this; exact this, hbel.alloc hbel.size _⟩
              clear hr1 hr2 hr2' hbel
              go_wp2
              clear hsz m3
              generalize wr.alloc (.cells (madeCells #[.int .i32 0] K) 21) = wr at A ⊢
              obtain ⟨wo3, hwo3⟩ : ∃ wo : World, wo = wr := ⟨_, rfl⟩
              go_loopg [14] x (fun g s14 wr => ∃ (v : Nat) (at_ sc : Nat → Nat), v ≤ x ∧ g = x - v ∧ s14 = .int .i64 v ∧ Nums32 wr w.heap.size (x + 1) (fun x => cl pr x K) ∧ Nums32 wr (w.heap.size + 1) x at_ ∧ Nums32 wr (w.heap.size + 2) K sc ∧ Below w.heap.size w wr ∧ Fill x K pf pr (pf v) at_ sc)
              case atStart => exact ⟨0, _, _, Nat.zero_le _, rfl, rfl, A.out.1, A.out.2.1, A.out.2.2.1, A.out.2.2.2, by rw [HI.out.1.z]; exact Fill.start _ _ fun u _ => rfl⟩
              case round =>
                clear hwo3 A
                obtain ⟨v, at_, sc, hv, rfl, rfl, hr1, hr2, hr3, hbel, hF⟩ := hrel
                by_cases hlt : v < x
                · have W := HI.out.1
                  have hpv : pf v ≤ pf (v + 1) := W.mono v hlt
                  have hpL : pf (v + 1) ≤ K := by have := W.le (v + 1) x (by omega) (Nat.le_refl _); rw [W.t] at this; exact this
                  obtain ⟨F, hF0⟩ : ∃ F : Nat → Nat, ∀ i, F i = pf i := ⟨_, fun _ => rfl⟩
                  have g0 : wr.cell? ⟨b1, o1 + v, none⟩ = some (.int .i32 (F v : Int)) := by rw [hF0]; exact cell_later hbel (HI.out.2.1 v (by omega))
                  have hFv : F v ≤ F (v + 1) ∧ F (v + 1) ≤ K := by rw [hF0, hF0]; exact ⟨hpv, hpL⟩
                  have A : Aside (Nums32 wr w.heap.size (x + 1) (fun x => cl pr x K) ∧ Nums32 wr (w.heap.size + 1) x at_ ∧ Nums32 wr (w.heap.size + 2) K sc ∧ Below w.heap.size w wr ∧ Fill x K pf pr (pf v) at_ sc) := ⟨hr1, hr2, hr3, hbel, hF⟩
                  have HF0 : Aside (∀ i, F i = pf i) := hF0
                  clear hr1 hr2 hr3 hbel hF hF0 W hpv hpL
                  go_wp2
                  obtain ⟨wo4, hwo4⟩ : ∃ wo : World, wo = wr := ⟨_, rfl⟩
                  go_loopg [15] (F (v + 1) - F v) (fun g s15 wr => ∃ (k : Nat) (at_ sc : Nat → Nat), F v ≤ k ∧ k ≤ F (v + 1) ∧ g = F (v + 1) - k ∧ s15 = .int .i32 k ∧ Nums32 wr w.heap.size (x + 1) (fun x => cl pr x K) ∧ Nums32 wr (w.heap.size + 1) x at_ ∧ Nums32 wr (w.heap.size + 2) K sc ∧ Below w.heap.size w wr ∧ Fill x K pf pr k at_ sc)
                  case atStart => exact ⟨F v, at_, sc, Nat.le_refl _, hFv.1, rfl, rfl, A.out.1, A.out.2.1, A.out.2.2.1, A.out.2.2.2.1, by rw [HF0.out]; exact A.out.2.2.2.2⟩
                  case round =>
                    clear hwo4 A g0
                    obtain ⟨k, at_, sc, hk1, hk2, rfl, rfl, hr1, hr2, hr3, hbel, hF⟩ := hrel
                    have g0 : wr.cell? ⟨b1, o1 + (v + 1), none⟩ = some (.int .i32 (F (v + 1) : Int)) := by rw [HF0.out]; exact cell_later hbel (HI.out.2.1 (v + 1) (by omega))
                    by_cases hlt2 : k < F (v + 1)
                    · obtain ⟨b2, o2, rfl, hc2⟩ := HI.out.2.2 (by omega)
                      have hst := hF.step HI.out.1 hlt (by rw [← HF0.out]; exact hk1) (by rw [← HF0.out]; exact hlt2) (by omega)
                      have hRk : R k < x := by rw [HR.out]; exact HI.out.1.lt k (by omega)
                      have g1 : wr.cell? ⟨b2, o2 + k, none⟩ = some (.int .i32 (R k : Int)) := by rw [HR.out]; exact cell_later hbel (hc2 k (by omega))
                      obtain ⟨q, hq⟩ : ∃ q, q = at_ (R k) := ⟨_, rfl⟩
                      have hqK : q < K := by rw [hq, HR.out, hst.1]; exact hst.2.1
                      have g2 : wr.cell? ⟨w.heap.size + 1, R k, none⟩ = some (.int .i32 (q : Int)) := by rw [hq]; exact hr2.cell hRk
                      have g3 : wr.frozen? ⟨w.heap.size + 1, R k, none⟩ = false := World.rowIs.frozen hr2 _
                      have g4 : wr.cell? ⟨w.heap.size + 2, q, none⟩ = some (.int .i32 (sc q : Int)) := hr3.cell hqK
                      have g5 : wr.frozen? ⟨w.heap.size + 2, q, none⟩ = false := World.rowIs.frozen hr3 _
                      have A : Aside (Nums32 wr w.heap.size (x + 1) (fun x => cl pr x K) ∧ Nums32 wr (w.heap.size + 1) x at_ ∧ Nums32 wr (w.heap.size + 2) K sc ∧ Below w.heap.size w wr ∧ Fill x K pf pr (k + 1) (updN at_ (R k) (q + 1)) (updN sc q v)) := ⟨hr1, hr2, hr3, hbel, by rw [hq, HR.out]; exact hst.2.2⟩
                      clear hr1 hr2 hr3 hbel hF hst hq hc2
                      go_wp2
                      all_goals try go_region
                      all_goals go_wp2
                      go_roundg (F (v + 1) - (k + 1))
                      case rel =>
                        go_light
                        rw [show ((q : Int) + 1) = ((q + 1 : Nat) : Int) by omega]
                        exact ⟨k + 1, _, _, by omega, by omega, rfl, by go_num, (A.out.1.other (by simp) _).other (by simp) _, (A.out.2.1.other (by simp) _).upd _ _, (A.out.2.2.1.upd _ _).other (by simp) _, (A.out.2.2.2.1.setCell (by simp) _).setCell (by simp) _, A.out.2.2.2.2⟩
                      case measure => go_light; omega
                    · obtain rfl : k = F (v + 1) := by omega
                      have A : Aside (Nums32 wr w.heap.size (x + 1) (fun x => cl pr x K) ∧ Nums32 wr (w.heap.size + 1) x at_ ∧ Nums32 wr (w.heap.size + 2) K sc ∧ Below w.heap.size w wr ∧ Fill x K pf pr (F (v + 1)) at_ sc) := ⟨hr1, hr2, hr3, hbel, hF⟩
                      clear hr1 hr2 hr3 hbel hF
                      go_wp2
                      go_roundg (x - (v + 1))
                      case rel =>
                        go_light
                        exact ⟨v + 1, at_, sc, by omega, rfl, by go_num, A.out.1, A.out.2.1, A.out.2.2.1, A.out.2.2.2.1, by rw [← HF0.out]; exact A.out.2.2.2.2⟩
                      case measure => go_light; omega
                · obtain rfl : v = x := by omega
                  have W := HI.out.1
                  rw [W.t] at hF
                  have ho := hF.over W (sf := fun x => cl pr x K) (fun _ _ => rfl)
                  have A : Aside (Nums32 wr w.heap.size (v + 1) (fun x => cl pr x K) ∧ Nums32 wr (w.heap.size + 2) K sc ∧ Below w.heap.size w wr ∧ Gr v K (fun x => cl pr x K) sc ∧ (∀ u v', u < v → v' < v → (Go1 (fun x => cl pr x K) sc u v' ↔ Fits v pf pr u v'))) := ⟨hr1, hr3, hbel, ho.1, ho.2.1 (by omega)⟩
                  clear hr1 hr2 hr3 hbel hF ho W
                  go_wp2
                  go_ret2
                  exact ⟨_, _, _, _, rfl, Nat.le_refl _, by omega, A.out.1, A.out.2.1, A.out.2.2.2.1, A.out.2.2.2.2, A.out.2.2.1⟩
end Go.Proofs.Qxb6602963a
