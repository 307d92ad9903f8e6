import Derived.Test.Qxb6602963aArr
import Derived.OwnWalk
namespace Go.Proofs.Qxb6602963a
open Go.RowKit
set_option linter.unusedVariables false

/-- a part of a slice -/
theorem slice_mid (a : Option Addr) (L c lo hi : Nat) (h1 : lo ≤ hi) (h2 : hi ≤ L) (h3 : L ≤ c) :
    ∃ aq cq, (∀ w, (Instr.sliceAt 22 (.slice a L c) (some (.int .i32 (lo : Int))) (some (.int .i32 (hi : Int))) none).run Try.prog w = .ok (.slice aq (hi - lo) cq) w) ∧ ∀ w f, Reads w a L f → Reads w aq (hi - lo) (fun j => f (lo + j)) := by
  refine ⟨if c = lo then a else a.map (·.add (lo * 1)), c - lo, fun w => ?_, fun w f h hp => ?_⟩
  · have hu : Try.prog.underlying 22 = some (.slice (Try.prog.elem 22)) := by kernel_rfl
    rw [run_sliceAt_slice _ _ _ _ _ _ hu, run_slice_lh (P := Try.prog) w 22 a L c hu .i32 .i32 (lo : Int) (hi : Int) (by omega) (by omega) (by omega)]
    have e2 : Try.prog.elem 22 = 21 := by kernel_rfl
    rw [e2, Try.sizeOf21]
    simp [sliced]
  · obtain ⟨b, o, rfl, hcell⟩ := h (by omega)
    refine ⟨b, o + lo, ?_, fun i hi => ?_⟩
    · rw [if_neg (by omega)]
      simp [Addr.add]
    · rw [Nat.add_assoc]; exact hcell _ (by omega)

/-- the head of an own row -/
theorem slice_head (b n c k : Nat) (h : k ≤ c) (w : World) : (Instr.sliceAt 22 (.slice (some ⟨b, 0, none⟩) n c) none (some (.int .i64 (k : Int))) none).run Try.prog w = .ok (.slice (some ⟨b, 0, none⟩) k c) w := by
  have hu : Try.prog.underlying 22 = some (.slice (Try.prog.elem 22)) := by kernel_rfl
  rw [run_sliceAt_slice _ _ _ _ _ _ hu, run_slice_h (P := Try.prog) w 22 _ n c hu .i64 (k : Int) (by omega) (by omega)]
  have e2 : Try.prog.elem 22 = 21 := by kernel_rfl
  rw [e2, Try.sizeOf21]
  simp [sliced, Addr.add]

def SuccPost (n L : Nat) (pf pr : Nat → Nat) (w : World) (e : Ending) (w' : World) : Prop :=
  ∃ b3 b4 sf sc, e = .returned (.tuple #[.slice (some ⟨b3, 0, none⟩) (n + 1) (n + 1), .slice (some ⟨b4, 0, none⟩) L L]) ∧ w.heap.size ≤ b3 ∧ w.heap.size ≤ b4 ∧ Arr w' b3 (n + 1) (fun i => (sf i : Int)) ∧ Arr w' b4 L (fun i => (sc i : Int)) ∧
    Gr n L sf sc ∧ (∀ u v, u < n → v < n → (Go1 sf sc u v ↔ Fits n pf pr u v)) ∧ Below w.heap.size w w'

/-- the flow graph that the callee holds: its two slices -/
structure FG (w : World) (S : Nat) (v1 v2 : Value) : Prop where
  c1 : w.cell? ⟨S, 1, none⟩ = some v1
  c2 : w.cell? ⟨S, 2, none⟩ = some v2

theorem FG.set {w : World} {S : Nat} {v1 v2 : Value} (h : FG w S v1 v2) {a : Addr} (ha : S ≠ a.block) (v : Value) : FG (w.setCell a v) S v1 v2 :=
  ⟨by rw [World.cell?_setCell_other _ _ _ _ (fun e => ha (congrArg Addr.block e).symm)]; exact h.c1, by rw [World.cell?_setCell_other _ _ _ _ (fun e => ha (congrArg Addr.block e).symm)]; exact h.c2⟩
theorem FG.below {w w' : World} {S : Nat} {v1 v2 : Value} (h : FG w S v1 v2) (hb : Below w.heap.size w w') : FG w' S v1 v2 := ⟨cell_later hb h.c1, cell_later hb h.c2⟩
theorem FG.alloc {w : World} {S : Nat} {v1 v2 : Value} (h : FG w S v1 v2) (o : Obj) : FG (w.alloc o) S v1 v2 := h.below ((Below.refl _ _).alloc (Nat.le_refl _) _)
theorem FG.drew {w : World} {S : Nat} {v1 v2 : Value} (h : FG w S v1 v2) : FG w.drew S v1 v2 := ⟨h.c1, h.c2⟩

set_option maxHeartbeats 4000000 in
set_option maxRecDepth 100000 in
theorem succ30 (src : Int) (b1 o1 c1 : Nat) (a2 : Option Addr) (n L c2 : Nat) (pf pr : Nat → Nat) (w : World) (W : Well n L pf pr) (hn : 1 ≤ n) (hn2 : n ≤ 4096) (hL : L ≤ 65536) (hLc : L ≤ c2) (h1 : Row w b1 o1 (n + 1) pf) (h2 : Reads w a2 L (fun i => .int .i32 (pr i : Int))) :
    Calls Try.prog 30 #[.agg #[.int .i64 src, .slice (some ⟨b1, o1, none⟩) (n + 1) c1, .slice a2 L c2]] w fun e w' => SuccPost n L pf pr w e w' := by
  have hmk := fun k hk => run_make_row' (P := Try.prog) 22 21 (.int .i32 0) _ Try.underlying22 Try.info21 rfl .i64 .i64 k (show 4 * k ≤ 281474976710656 by omega) (show k ≤ 9223372036854775807 by omega)
  have m1 := hmk (n + 1) (by omega)
  have m3 := hmk L (by omega)
  rw [show ((n + 1 : Nat) : Int) = (n : Int) + 1 by omega] at m1
  clear hmk
  have HI : Aside (Well n L pf pr ∧ Row w b1 o1 (n + 1) pf ∧ Reads w a2 L (fun i => .int .i32 (pr i : Int))) := ⟨W, h1, h2⟩
  clear W h1 h2
  obtain ⟨R, hR⟩ : ∃ R : Nat → Nat, ∀ i, R i = pr i := ⟨_, fun _ => rfl⟩
  have HR : Aside (∀ i, R i = pr i) := hR
  clear hR
  obtain ⟨w1, hw1⟩ : ∃ w1, w1 = w.alloc (.cells #[.int .i64 src, .slice (some ⟨b1, o1, none⟩) (n + 1) c1, .slice a2 L c2] 50) := ⟨_, rfl⟩
  have hb1 : Below w.heap.size w w1 := by rw [hw1]; exact (Below.refl _ _).alloc (Nat.le_refl _) _
  have hs1 : w1.heap.size = w.heap.size + 1 := by rw [hw1]; simp
  have hf1 : FG w1 w.heap.size (.slice (some ⟨b1, o1, none⟩) (n + 1) c1) (.slice a2 L c2) := by rw [hw1]; exact ⟨by simp, by simp⟩
  have HM : Aside (Nums32 (w1.alloc (.cells (madeCells #[.int .i32 0] (n + 1)) 21)) (w.heap.size + 1) (n + 1) (fun _ => 0) ∧ Below w.heap.size w (w1.alloc (.cells (madeCells #[.int .i32 0] (n + 1)) 21)) ∧ FG (w1.alloc (.cells (madeCells #[.int .i32 0] (n + 1)) 21)) w.heap.size (.slice (some ⟨b1, o1, none⟩) (n + 1) c1) (.slice a2 L c2) ∧ (w1.alloc (.cells (madeCells #[.int .i32 0] (n + 1)) 21)).heap.size = w.heap.size + 2) :=
    ⟨by have := Nums32.made w1 (n + 1); rw [hs1] at this; exact this, hb1.alloc hb1.size _, hf1.alloc _, by simp [hs1]⟩
  rw [hw1] at HM
  clear hb1 hs1 hf1 hw1
  go_enter Try.func30, Try.ntmps30
  go_wp2
  clear m1
  generalize (w.alloc (.cells #[.int .i64 src, .slice (some ⟨b1, o1, none⟩) (n + 1) c1, .slice a2 L c2] 50)).alloc (.cells (madeCells #[.int .i32 0] (n + 1)) 21) = wr at HM ⊢
  go_loopg [22] L (fun g s22 wr => ∃ K : Nat, K ≤ L ∧ g = L - K ∧ s22 = .int .i64 K ∧ Nums32 wr (w.heap.size + 1) (n + 1) (cnt1 pr K) ∧ Below w.heap.size w wr ∧ FG wr w.heap.size (.slice (some ⟨b1, o1, none⟩) (n + 1) c1) (.slice a2 L c2) ∧ wr.heap.size = w.heap.size + 2)
  case atStart => exact ⟨0, Nat.zero_le _, rfl, rfl, HM.out.1.congr fun i _ => by simp [cnt1, ce], HM.out.2.1, HM.out.2.2.1, HM.out.2.2.2⟩
  case round =>
    clear HM
    obtain ⟨K, hK, rfl, rfl, hrow, hbel, hfg, hsz⟩ := hrel
    by_cases hlt : K < L
    · obtain ⟨b2, o2, rfl, hc2⟩ := HI.out.2.2 (by omega)
      have hRk : R K < n := by rw [HR.out]; exact HI.out.1.lt K hlt
      have g0 : wr.cell? ⟨b2, o2 + K, none⟩ = some (.int .i32 (R K : Int)) := by rw [HR.out]; exact cell_later hbel (hc2 K hlt)
      obtain ⟨q, hq⟩ : ∃ q, q = cnt1 pr K (R K + 1) := ⟨_, rfl⟩
      have hq2 : q ≤ 65536 := by rw [hq]; exact Nat.le_trans (cnt1_le _ _ _) (by omega)
      have g1 : wr.cell? ⟨w.heap.size + 1, R K + 1, none⟩ = some (.int .i32 (q : Int)) := by rw [hq]; exact hrow.cell (by omega)
      have g2 : wr.frozen? ⟨w.heap.size + 1, R K + 1, none⟩ = false := World.rowIs.frozen hrow _
      have A : Aside (Nums32 wr (w.heap.size + 1) (n + 1) (cnt1 pr K) ∧ Below w.heap.size w wr ∧ q = cnt1 pr K (R K + 1) ∧ wr.heap.size = w.heap.size + 2 ∧ FG wr w.heap.size (.slice (some ⟨b1, o1, none⟩) (n + 1) c1) (.slice (some ⟨b2, o2, none⟩) L c2)) := ⟨hrow, hbel, hq, hsz, hfg⟩
      clear hrow hbel hq hc2 hsz hfg
      go_wp2
      go_roundg (L - (K + 1))
      case rel =>
        go_light
        refine ⟨K + 1, by omega, rfl, by go_num, ?_, A.out.2.1.setCell (by simp) _, A.out.2.2.2.2.set (by simp) _, by simpa using A.out.2.2.2.1⟩
        rw [show ((q : Int) + 1) = ((q + 1 : Nat) : Int) by omega]
        refine (A.out.1.upd (R K + 1) (q + 1)).congr fun x _ => ?_
        by_cases e : x = R K + 1
        · subst e
          rw [updN_same, A.out.2.2.1]
          simp [cnt1, ce, HR.out]
        · rw [updN_ne _ _ e]
          unfold cnt1
          by_cases e2 : x = 0
          · simp [e2]
          · rw [if_neg e2, if_neg e2]
            simp only [ce]
            rw [if_neg (by rw [← HR.out]; omega)]
            rfl
      case measure => go_light; omega
    · obtain rfl : K = L := by omega
      have A : Aside (Nums32 wr (w.heap.size + 1) (n + 1) (cnt1 pr K) ∧ Below w.heap.size w wr ∧ FG wr w.heap.size (.slice (some ⟨b1, o1, none⟩) (n + 1) c1) (.slice a2 K c2) ∧ wr.heap.size = w.heap.size + 2) := ⟨hrow, hbel, hfg, hsz⟩
      clear hrow hbel hsz hfg
      go_wp2
      obtain ⟨wo, hwo⟩ : ∃ wo : World, wo = wr := ⟨_, rfl⟩
      go_loopg [35] n (fun g s35 wr => ∃ V : Nat, V ≤ n ∧ g = n - V ∧ s35 = .int .i64 V ∧ Nums32 wr (w.heap.size + 1) (n + 1) (cnt2 pr K V) ∧ Below w.heap.size w wr ∧ FG wr w.heap.size (.slice (some ⟨b1, o1, none⟩) (n + 1) c1) (.slice a2 K c2) ∧ wr.heap.size = w.heap.size + 2)
      case atStart => exact ⟨0, Nat.zero_le _, rfl, rfl, A.out.1.congr fun i _ => by
        unfold cnt1 cnt2
        by_cases e : i = 0
        · subst e; simp [cl_zero]
        · rw [if_neg e, if_neg (by omega)], A.out.2.1, A.out.2.2.1, A.out.2.2.2⟩
      case round =>
        clear hwo A
        obtain ⟨V, hV, rfl, rfl, hrow, hbel, hfg, hsz⟩ := hrel
        by_cases hlt : V < n
        · obtain ⟨q, hq⟩ : ∃ q, q = cnt2 pr K V V := ⟨_, rfl⟩
          obtain ⟨q1, hq1⟩ : ∃ q1, q1 = cnt2 pr K V (V + 1) := ⟨_, rfl⟩
          have hqb : q ≤ 65536 := by rw [hq]; unfold cnt2; rw [if_pos (Nat.le_refl _)]; exact Nat.le_trans (cl_le _ _) (by omega)
          have hqb1 : q1 ≤ 65536 := by rw [hq1]; unfold cnt2; rw [if_neg (by omega)]; exact Nat.le_trans (ce_le _ _ _) (by omega)
          have g1 : wr.cell? ⟨w.heap.size + 1, V, none⟩ = some (.int .i32 (q : Int)) := by rw [hq]; exact hrow.cell (by omega)
          have g1' : wr.cell? ⟨w.heap.size + 1, V + 1, none⟩ = some (.int .i32 (q1 : Int)) := by rw [hq1]; exact hrow.cell (by omega)
          have g2 : wr.frozen? ⟨w.heap.size + 1, V + 1, none⟩ = false := World.rowIs.frozen hrow _
          have A : Aside (Nums32 wr (w.heap.size + 1) (n + 1) (cnt2 pr K V) ∧ Below w.heap.size w wr ∧ q = cnt2 pr K V V ∧ q1 = cnt2 pr K V (V + 1) ∧ wr.heap.size = w.heap.size + 2 ∧ FG wr w.heap.size (.slice (some ⟨b1, o1, none⟩) (n + 1) c1) (.slice a2 K c2)) := ⟨hrow, hbel, hq, hq1, hsz, hfg⟩
          clear hrow hbel hq hq1 hsz hfg
          go_wp2
          go_region
          all_goals go_wp2
          go_roundg (n - (V + 1))
          case rel =>
            go_light
            refine ⟨V + 1, by omega, rfl, by go_num, ?_, (A.out.2.1.setCell (by simp) _).drew, (A.out.2.2.2.2.2.set (by simp) _).drew, by simpa using A.out.2.2.2.2.1⟩
            rw [show ((q1 : Int) + (q : Int)) = ((q1 + q : Nat) : Int) by omega]
            refine (A.out.1.upd (V + 1) (q1 + q)).congr fun x _ => ?_
            obtain ⟨e3, e4⟩ : q = cnt2 pr K V V ∧ q1 = cnt2 pr K V (V + 1) := ⟨A.out.2.2.1, A.out.2.2.2.1⟩
            unfold cnt2 at e3 e4
            rw [if_pos (Nat.le_refl _)] at e3
            rw [if_neg (by omega), Nat.add_sub_cancel] at e4
            unfold cnt2
            by_cases e : x = V + 1
            · subst e
              rw [updN_same, if_pos (Nat.le_refl _), cl_succ, e3, e4]; omega
            · rw [updN_ne _ _ e]
              by_cases e2 : x ≤ V
              · rw [if_pos e2, if_pos (by omega)]
              · rw [if_neg e2, if_neg (by omega)]
          case measure => go_light; omega
        · obtain rfl : V = n := by omega
          have hrow' : Nums32 wr (w.heap.size + 1) (V + 1) (fun x => cl pr x K) := hrow.congr fun x hx => by unfold cnt2; rw [if_pos (by omega)]
          have A : Aside (Nums32 (wr.alloc (.cells (madeCells #[.int .i32 0] K) 21)) (w.heap.size + 1) (V + 1) (fun x => cl pr x K) ∧ Nums32 (wr.alloc (.cells (madeCells #[.int .i32 0] K) 21)) (w.heap.size + 2) K (fun _ => 0) ∧ Below w.heap.size w (wr.alloc (.cells (madeCells #[.int .i32 0] K) 21)) ∧ FG (wr.alloc (.cells (madeCells #[.int .i32 0] K) 21)) w.heap.size (.slice (some ⟨b1, o1, none⟩) (V + 1) c1) (.slice a2 K c2) ∧ (wr.alloc (.cells (madeCells #[.int .i32 0] K) 21)).heap.size = w.heap.size + 3) :=
            ⟨hrow'.alloc _, by have := Nums32.made wr K; rw [hsz] at this; exact this, hbel.alloc hbel.size _, hfg.alloc _, by simp [hsz]⟩
          have gf : wr.cell? ⟨w.heap.size, 2, none⟩ = some (.slice a2 K c2) := hfg.c2
          have hsl := slice_head (w.heap.size + 1) (V + 1) (V + 1) V (by omega)
          clear hrow hrow' hbel hfg
          obtain ⟨i0, hi, hz0, hz1, hz2⟩ := info_parts Try.info21
          have hnews : ∀ j u, ((List.range V).map fun x => Value.int .i32 (cl pr x K : Int))[j]? = some u → (wr.alloc (.cells (madeCells #[.int .i32 0] K) 21)).cell? ((⟨w.heap.size + 1, 0, none⟩ : Addr).add j) = some u := fun j u hj => by
            have hlt : j < V := by have := (List.getElem?_eq_some_iff.1 hj).1; simpa using this
            have : u = .int .i32 (cl pr j K : Int) := by simp [hlt] at hj; exact hj.symm
            subst this
            have e : (⟨w.heap.size + 1, 0, none⟩ : Addr).add j = ⟨w.heap.size + 1, j, none⟩ := by unfold Addr.add; split <;> simp_all
            rw [e]
            exact A.out.1.cell (by omega)
          have HNW : Aside _ := hnews
          clear hnews
          go_wp2_with (at_builtin; refine wpList_append_own _ rfl (.const (.slice none 0 0)) (.tmp 56) 22 rfl (w.heap.size + 3) 21 i0 (.int .i32 0) 1 4 Try.underlying22 hi hz0 hz1 hz2 rfl (by decide) (.slice none 0 0) 0 [] rfl (World.ownsRow_nil _ _ _ _) ⟨w.heap.size + 1, 0, none⟩ V (V + 1) ((List.range V).map fun x => Value.int .i32 (cl pr x K : Int)) rfl (by simp) HNW.out (by intro v hv; obtain ⟨n, _, rfl⟩ := List.mem_map.1 hv; rfl) (by simp only [maxLen]; omega) (by omega) (by rw [A.out.2.2.2.2]; exact Nat.le_refl _) ?_; intro v' w3 hown3 hgr3 _)
          obtain ⟨ga, capa, rfl, hga, hcapa, hat⟩ := arr_owns hown3 (by omega) (fun x => (cl pr x K : Int)) (fun i hi => by rw [List.nil_append, List.getElem?_map, List.getElem?_range (by omega)]; rfl)
          have hb3 : Below (wr.alloc (.cells (madeCells #[.int .i32 0] K) 21)).heap.size (wr.alloc (.cells (madeCells #[.int .i32 0] K) 21)) w3 := ⟨hgr3.os, hgr3.tape, hgr3.output, hgr3.size, fun k hk => hgr3.block k hk (by simp [Value.ownBlock])⟩
          have B : Aside (Arr w3 (w.heap.size + 1) (V + 1) (fun x => (cl pr x K : Int)) ∧ Arr w3 (w.heap.size + 2) K (fun _ => 0) ∧ Arr w3 ga V (fun x => (cl pr x K : Int)) ∧ Below w.heap.size w w3 ∧ FG w3 w.heap.size (.slice (some ⟨b1, o1, none⟩) (V + 1) c1) (.slice a2 K c2)) :=
            ⟨A.out.1.arr.below hb3, (A.out.2.1.arr.below hb3).congr fun _ _ => rfl, by rw [Nat.zero_add] at hat; exact hat, A.out.2.2.1.trans (hb3.mono A.out.2.2.1.size), A.out.2.2.2.1.below hb3⟩
          simp only [Nat.zero_add]
          clear A hat hown3 hgr3 hb3 HNW hsl gf hsz m3
          obtain ⟨wo3, hwo3⟩ : ∃ wo : World, wo = w3 := ⟨_, rfl⟩
          go_loopg [59] V (fun g s59 wr => ∃ (v : Nat) (at_ sc : Nat → Nat), v ≤ V ∧ g = V - v ∧ s59 = .int .i64 v ∧ Arr wr (w.heap.size + 1) (V + 1) (fun x => (cl pr x K : Int)) ∧ Arr wr ga V (fun x => (at_ x : Int)) ∧ Arr wr (w.heap.size + 2) K (fun x => (sc x : Int)) ∧ Below w.heap.size w wr ∧ FG wr w.heap.size (.slice (some ⟨b1, o1, none⟩) (V + 1) c1) (.slice a2 K c2) ∧ Fill V K pf pr (pf v) at_ sc)
          case atStart => exact ⟨0, _, fun _ => 0, Nat.zero_le _, rfl, rfl, B.out.1, B.out.2.2.1, B.out.2.1.congr fun _ _ => rfl, B.out.2.2.2.1, B.out.2.2.2.2, by rw [HI.out.1.z]; exact Fill.start _ _ fun u _ => rfl⟩
          case round =>
            clear hwo3 B
            obtain ⟨v, at_, sc, hv, rfl, rfl, hr1, hr2, hr3, hbel, hfg, hF⟩ := hrel
            by_cases hlt : v < V
            · have W := HI.out.1
              have hpv : pf v ≤ pf (v + 1) := W.mono v hlt
              have hpL : pf (v + 1) ≤ K := by have := W.le (v + 1) V (by omega) (Nat.le_refl _); rw [W.t] at this; exact this
              obtain ⟨F, hF0⟩ : ∃ F : Nat → Nat, ∀ i, F i = pf i := ⟨_, fun _ => rfl⟩
              have g0 : wr.cell? ⟨b1, o1 + v, none⟩ = some (.int .i32 (F v : Int)) := by rw [hF0]; exact cell_later hbel (HI.out.2.1 v (by omega))
              have g0' : wr.cell? ⟨b1, o1 + (v + 1), none⟩ = some (.int .i32 (F (v + 1) : Int)) := by rw [hF0]; exact cell_later hbel (HI.out.2.1 (v + 1) (by omega))
              have hFv : F v ≤ F (v + 1) ∧ F (v + 1) ≤ K := by rw [hF0, hF0]; exact ⟨hpv, hpL⟩
              obtain ⟨aq, cq, hsl, hrq⟩ := slice_mid a2 K c2 (F v) (F (v + 1)) hFv.1 hFv.2 hLc
              have gf1 : wr.cell? ⟨w.heap.size, 1, none⟩ = some (.slice (some ⟨b1, o1, none⟩) (V + 1) c1) := hfg.c1
              have gf2 : wr.cell? ⟨w.heap.size, 2, none⟩ = some (.slice a2 K c2) := hfg.c2
              have A : Aside (Arr wr (w.heap.size + 1) (V + 1) (fun x => (cl pr x K : Int)) ∧ Arr wr ga V (fun x => (at_ x : Int)) ∧ Arr wr (w.heap.size + 2) K (fun x => (sc x : Int)) ∧ Below w.heap.size w wr ∧ FG wr w.heap.size (.slice (some ⟨b1, o1, none⟩) (V + 1) c1) (.slice a2 K c2) ∧ Fill V K pf pr (pf v) at_ sc) := ⟨hr1, hr2, hr3, hbel, hfg, hF⟩
              have HF0 : Aside ((∀ i, F i = pf i) ∧ ∀ w f, Reads w a2 K f → Reads w aq (F (v + 1) - F v) (fun j => f (F v + j))) := ⟨hF0, hrq⟩
              clear hr1 hr2 hr3 hbel hF hF0 W hpv hpL hfg hrq
              go_wp2
              go_quiet (fail)
              have A2 : Aside (Arr (wr.drewN nq) (w.heap.size + 1) (V + 1) (fun x => (cl pr x K : Int)) ∧ Arr (wr.drewN nq) ga V (fun x => (at_ x : Int)) ∧ Arr (wr.drewN nq) (w.heap.size + 2) K (fun x => (sc x : Int)) ∧ Below w.heap.size w (wr.drewN nq) ∧ FG (wr.drewN nq) w.heap.size (.slice (some ⟨b1, o1, none⟩) (V + 1) c1) (.slice a2 K c2) ∧ Fill V K pf pr (pf v) at_ sc) :=
                ⟨A.out.1.drewN _, A.out.2.1.drewN _, A.out.2.2.1.drewN _, below_drewN A.out.2.2.2.1 _, ⟨A.out.2.2.2.2.1.c1, A.out.2.2.2.2.1.c2⟩, A.out.2.2.2.2.2⟩
              clear A g0 g0' gf1 gf2
              generalize wr.drewN nq = wr at A2 ⊢
              go_wp2
              obtain ⟨wo4, hwo4⟩ : ∃ wo : World, wo = wr := ⟨_, rfl⟩
              obtain ⟨dl, hdl⟩ : ∃ dl, dl = F (v + 1) - F v := ⟨_, rfl⟩
              have HDL : Aside (dl = F (v + 1) - F v) := hdl
              rw [← hdl] at HF0 ⊢
              have hdl2 : F v + dl = F (v + 1) := by omega
              clear hdl
              go_loopg [77] dl (fun g s77 wr => ∃ (j : Nat) (at_ sc : Nat → Nat), j ≤ dl ∧ g = dl - j ∧ s77 = .int .i64 j ∧ Arr wr (w.heap.size + 1) (V + 1) (fun x => (cl pr x K : Int)) ∧ Arr wr ga V (fun x => (at_ x : Int)) ∧ Arr wr (w.heap.size + 2) K (fun x => (sc x : Int)) ∧ Below w.heap.size w wr ∧ FG wr w.heap.size (.slice (some ⟨b1, o1, none⟩) (V + 1) c1) (.slice a2 K c2) ∧ Fill V K pf pr (F v + j) at_ sc)
              case atStart => exact ⟨0, at_, sc, Nat.zero_le _, rfl, rfl, A2.out.1, A2.out.2.1, A2.out.2.2.1, A2.out.2.2.2.1, A2.out.2.2.2.2.1, by rw [Nat.add_zero, HF0.out.1]; exact A2.out.2.2.2.2.2⟩
              case round =>
                clear hwo4 A2
                obtain ⟨j, at_, sc, hj, rfl, rfl, hr1, hr2, hr3, hbel, hfg, hF⟩ := hrel
                by_cases hlt2 : j < dl
                · obtain ⟨bq, oq, rfl, hcq⟩ := HF0.out.2 w _ HI.out.2.2 (by omega)
                  obtain ⟨k, hk⟩ : ∃ k, k = F v + j := ⟨_, rfl⟩
                  rw [← hk] at hF
                  have hst := hF.step HI.out.1 hlt (by rw [← HF0.out.1]; omega) (by rw [← HF0.out.1]; omega) (by omega)
                  have hRk : R k < V := by rw [HR.out]; exact HI.out.1.lt k (by omega)
                  have g1 : wr.cell? ⟨bq, oq + j, none⟩ = some (.int .i32 (R k : Int)) := by rw [HR.out, hk]; exact cell_later hbel (hcq j hlt2)
                  obtain ⟨q, hq⟩ : ∃ q, q = at_ (R k) := ⟨_, rfl⟩
                  have hqK : q < K := by rw [hq, HR.out, hst.1]; exact hst.2.1
                  have g2 : wr.cell? ⟨ga, R k, none⟩ = some (.int .i32 (q : Int)) := by rw [hq]; exact hr2.cell hRk
                  have g3 : wr.frozen? ⟨ga, R k, none⟩ = false := hr2.frozen _
                  have g4 : wr.cell? ⟨w.heap.size + 2, q, none⟩ = some (.int .i32 (sc q : Int)) := hr3.cell hqK
                  have g5 : wr.frozen? ⟨w.heap.size + 2, q, none⟩ = false := hr3.frozen _
                  have hne : ga ≠ w.heap.size + 2 := by omega
                  have A : Aside (Arr wr (w.heap.size + 1) (V + 1) (fun x => (cl pr x K : Int)) ∧ Arr wr ga V (fun x => (at_ x : Int)) ∧ Arr wr (w.heap.size + 2) K (fun x => (sc x : Int)) ∧ Below w.heap.size w wr ∧ FG wr w.heap.size (.slice (some ⟨b1, o1, none⟩) (V + 1) c1) (.slice a2 K c2) ∧ Fill V K pf pr (k + 1) (updN at_ (R k) (q + 1)) (updN sc q v) ∧ k = F v + j) := ⟨hr1, hr2, hr3, hbel, hfg, by rw [hq, HR.out]; exact hst.2.2, hk⟩
                  clear hr1 hr2 hr3 hbel hF hst hq hcq hfg hk
                  go_wp2
                  go_roundg (dl - (j + 1))
                  case rel =>
                    go_light
                    refine ⟨j + 1, updN at_ (R k) (q + 1), updN sc q v, by omega, rfl, by go_num, (A.out.1.other (by simp) _).other (by show _ ≠ ga; omega) _, ?_, ?_, (A.out.2.2.2.1.setCell (by simp) _).setCell (by show _ ≤ ga; omega) _, (A.out.2.2.2.2.1.set (by simp) _).set (by show _ ≠ ga; omega) _, ?_⟩
                    · refine ((A.out.2.1.other (by show ga ≠ _; exact hne) _).upd (R k) _).congr fun x _ => ?_
                      by_cases e : x = R k
                      · subst e; rw [updN_same, updN_same]; omega
                      · rw [updN_ne _ _ e, updN_ne _ _ e]
                    · refine ((A.out.2.2.1.upd q _).other (by show _ ≠ ga; exact Ne.symm hne) _).congr fun x _ => ?_
                      by_cases e : x = q
                      · subst e; rw [updN_same, updN_same]
                      · rw [updN_ne _ _ e, updN_ne _ _ e]
                    · have e := A.out.2.2.2.2.2.2
                      rw [show F v + (j + 1) = k + 1 by omega]
                      exact A.out.2.2.2.2.2.1
                  case measure => go_light; omega
                · obtain rfl : j = dl := by omega
                  have A : Aside (Arr wr (w.heap.size + 1) (V + 1) (fun x => (cl pr x K : Int)) ∧ Arr wr ga V (fun x => (at_ x : Int)) ∧ Arr wr (w.heap.size + 2) K (fun x => (sc x : Int)) ∧ Below w.heap.size w wr ∧ FG wr w.heap.size (.slice (some ⟨b1, o1, none⟩) (V + 1) c1) (.slice a2 K c2) ∧ Fill V K pf pr (F (v + 1)) at_ sc) := ⟨hr1, hr2, hr3, hbel, hfg, by rw [← hdl2]; exact hF⟩
                  clear hr1 hr2 hr3 hbel hF hfg
                  go_wp2
                  go_roundg (V - (v + 1))
                  case rel =>
                    go_light
                    exact ⟨v + 1, at_, sc, by omega, rfl, by go_num, A.out.1, A.out.2.1, A.out.2.2.1, A.out.2.2.2.1, A.out.2.2.2.2.1, by rw [← HF0.out.1]; exact A.out.2.2.2.2.2⟩
                  case measure => go_light; omega
            · obtain rfl : v = V := by omega
              have W := HI.out.1
              rw [W.t] at hF
              have ho := hF.over W (sf := fun x => cl pr x K) (fun _ _ => rfl)
              have A : Aside (Arr wr (w.heap.size + 1) (v + 1) (fun x => (cl pr x K : Int)) ∧ Arr wr (w.heap.size + 2) K (fun x => (sc x : Int)) ∧ Below w.heap.size w wr ∧ Gr v K (fun x => cl pr x K) sc ∧ (∀ u v', u < v → v' < v → (Go1 (fun x => cl pr x K) sc u v' ↔ Fits v pf pr u v'))) := ⟨hr1, hr3, hbel, ho.1, ho.2.1 (by omega)⟩
              clear hr1 hr2 hr3 hbel hF ho W hfg
              go_wp2
              go_ret2
              exact ⟨_, _, _, _, rfl, by omega, by omega, A.out.1, A.out.2.1, A.out.2.2.2.1, A.out.2.2.2.2, A.out.2.2.1⟩
end Go.Proofs.Qxb6602963a
