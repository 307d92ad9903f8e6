import Derived.Test.Qxb6602963aG4
import Derived.Test.Qxb6602963aBfs
namespace Go.Proofs.Qxb6602963a
open Go.RowKit
set_option linter.unusedVariables false

/-- a row of bools -/
def Bools (w : World) (b n : Nat) (f : Nat → Bool) : Prop := w.rowIs b 4 n (fun i => .bool (f i))
theorem Bools.cell {w : World} {b n : Nat} {f : Nat → Bool} (h : Bools w b n f) {i : Nat} (hi : i < n) : w.cell? ⟨b, i, none⟩ = some (.bool (f i)) := World.rowIs.cell h hi
theorem Bools.upd {w : World} {b n : Nat} {f : Nat → Bool} (h : Bools w b n f) (k : Nat) (v : Bool) : Bools (w.setCell ⟨b, k, none⟩ (.bool v)) b n (updN f k v) := by
  refine (World.rowIs.set h k _).congr fun j _ => ?_
  by_cases e : j = k
  · subst e; simp [updN]
  · simp [updN, e]
theorem Bools.other {w : World} {b n : Nat} {f : Nat → Bool} (h : Bools w b n f) {a : Addr} (ha : b ≠ a.block) (v : Value) : Bools (w.setCell a v) b n f := World.rowIs.setOther h ha v
theorem Bools.alloc {w : World} {b n : Nat} {f : Nat → Bool} (h : Bools w b n f) (o : Obj) : Bools (w.alloc o) b n f := World.rowIs.alloc h o
theorem Bools.made (w : World) (n : Nat) : Bools (w.alloc (.cells (madeCells #[.bool false] n) 4)) w.heap.size n (fun _ => false) := World.rowIs_made w _ n 4
theorem Bools.below {w w' : World} {b n : Nat} {f : Nat → Bool} (h : Bools w b n f) (hb : Below w.heap.size w w') : Bools w' b n f := World.rowIs.of_block h (hb.block b (World.rowIs.lt h))

theorem made_set (z v : Value) (n k : Nat) : ((madeCells #[z] n).setIfInBounds k v).size = n ∧ ∀ i, i < n → ((madeCells #[z] n).setIfInBounds k v)[i]? = some (if i = k then v else z) := by
  obtain ⟨C, hC, hs, hc⟩ := World.rowIs_made (default : World) z n 5
  have e : (((default : World).alloc (.cells (madeCells #[z] n) 5)).heap[(default : World).heap.size]?) = some (.cells (madeCells #[z] n) 5) := heap_alloc_new _ _
  rw [e] at hC
  cases hC
  refine ⟨by simp [hs], fun i hi => ?_⟩
  by_cases c : i = k
  · subst c
    have : i < (madeCells #[z] n).size := by omega
    simp [this]
  · simp [Ne.symm c, c, hc i hi]

def ReachPost (n src : Nat) (av : Int) (sf sc : Nat → Nat) (w : World) (e : Ending) (w' : World) : Prop :=
  ∃ b S, e = .returned (.slice (some ⟨b, 0, none⟩) n n) ∧ w.heap.size ≤ b ∧ Bools w' b n S ∧ (∀ v, v < n → (S v = true ↔ RV (Go1 sf sc) src av v)) ∧ Below w.heap.size w w'

set_option maxHeartbeats 4000000 in
set_option maxRecDepth 100000 in
theorem reach21 (b3 c3 b4 c4 n L src : Nat) (av : Int) (sf sc : Nat → Nat) (w : World) (G : Gr n L sf sc) (hn : 1 ≤ n) (hn2 : n ≤ 4096) (hL : L ≤ 65536) (hs : src < n) (hav : -1 ≤ av ∧ av ≤ 4096) (h3 : Arr w b3 (n + 1) (fun i => (sf i : Int))) (h4 : Arr w b4 L (fun i => (sc i : Int))) :
    Calls Try.prog 21 #[.int .i64 n, .int .i64 src, .slice (some ⟨b3, 0, none⟩) (n + 1) c3, .slice (some ⟨b4, 0, none⟩) L c4, .int .i64 av] w fun e w' => ReachPost n src av sf sc w e w' := by
  have m1 := run_make_row' (P := Try.prog) 29 4 (.bool false) _ Try.underlying29 Try.info4 rfl .i64 .i64 n (by omega) (by omega)
  have m2 := run_make_row' (P := Try.prog) 22 21 (.int .i32 0) _ Try.underlying22 Try.info21 rfl .i64 .i64 n (by omega) (by omega)
  have HI : Aside (Gr n L sf sc ∧ Arr w b3 (n + 1) (fun i => (sf i : Int)) ∧ Arr w b4 L (fun i => (sc i : Int))) := ⟨G, h3, h4⟩
  have hl3 := h3.lt
  have hl4 := h4.lt
  clear G h3 h4
  obtain ⟨w1, hw1⟩ : ∃ w1, w1 = (w.alloc (.cells (madeCells #[.bool false] n) 4)).alloc (.cells (madeCells #[.int .i32 0] n) 21) := ⟨_, rfl⟩
  have q1 : Bools w1 w.heap.size n (fun _ => false) := by rw [hw1]; exact (Bools.made w n).alloc _
  have q2 : Arr w1 (w.heap.size + 1) n (fun _ => 0) := by rw [hw1]; have := Arr.made (w.alloc (.cells (madeCells #[.bool false] n) 4)) n; simpa using this
  have q3 : Below w.heap.size w w1 := by rw [hw1]; exact ((Below.refl _ _).alloc (Nat.le_refl _) _).alloc (by simp) _
  have HW : Aside (w1 = (w.alloc (.cells (madeCells #[.bool false] n) 4)).alloc (.cells (madeCells #[.int .i32 0] n) 21)) := hw1
  have HM : Aside (Bools w1 w.heap.size n (fun _ => false) ∧ Arr w1 (w.heap.size + 1) n (fun _ => 0) ∧ Below w.heap.size w w1) := ⟨q1, q2, q3⟩
  clear q1 q2 q3 hw1
  go_enter Try.func21, Try.ntmps21
  go_upto_region 5 with fail
  rw [← HW.out]
  clear HW m1 m2
  have g1 : w1.cell? ⟨w.heap.size, src, none⟩ = some (.bool false) := HM.out.1.cell hs
  have g2 : w1.frozen? ⟨w.heap.size, src, none⟩ = false := World.rowIs.frozen HM.out.1 _
  have g3 : w1.cell? ⟨w.heap.size + 1, 0, none⟩ = some (.int .i32 0) := HM.out.2.1.cell (by omega)
  have g4 : w1.frozen? ⟨w.heap.size + 1, 0, none⟩ = false := HM.out.2.1.frozen _
  go_wp2
  clear g1 g2 g3 g4
  go_loopg [13, 14] n (fun g s13 s14 wr => ∃ (head tail : Nat) (seen : Nat → Bool) (q : Nat → Nat), g = n - head ∧ s13 = .int .i64 head ∧ s14 = .int .i64 tail ∧ Bools wr w.heap.size n seen ∧ Arr wr (w.heap.size + 1) n (fun i => (q i : Int)) ∧ Below w.heap.size w wr ∧ Bfs n src L av sf sc seen q head tail)
  case atStart =>
    refine ⟨0, 1, updN (fun _ => false) src true, updN (fun _ => 0) 0 src, rfl, rfl, rfl, (HM.out.1.upd src true).other (by simp) _, ?_, (HM.out.2.2.setCell (by simp) _).setCell (by simp) _, Bfs.start hs⟩
    refine ((HM.out.2.1.other (by simp) _).upd 0 _).congr fun x _ => ?_
    by_cases e : x = 0
    · subst e; rw [updN_same, updN_same]
    · rw [updN_ne _ _ e, updN_ne _ _ e]; rfl
  case round =>
    clear HM
    obtain ⟨head, tail, seen, q, rfl, rfl, rfl, r1, r2, hbel, hB⟩ := hrel
    have htn : tail ≤ n := by have := hB.fr; omega
    have hht := hB.ht
    by_cases hlt : head < tail
    · obtain ⟨u, hu⟩ : ∃ u, u = q head := ⟨_, rfl⟩
      have hq := hB.hq head hlt
      rw [← hu] at hq
      have hun : u < n := hq.1
      obtain ⟨F, hF⟩ : ∃ F : Nat → Nat, ∀ i, F i = sf i := ⟨_, fun _ => rfl⟩
      have G := HI.out.1
      have hF1 : F u ≤ F (u + 1) := by rw [hF, hF]; exact G.mono u hun
      have hF2 : F (u + 1) ≤ L := by rw [hF]; exact G.top _ (by omega)
      have g1 : wr.cell? ⟨w.heap.size + 1, head, none⟩ = some (.int .i32 (u : Int)) := by rw [hu]; exact r2.cell (by omega)
      have g2 : wr.cell? ⟨b3, u, none⟩ = some (.int .i32 (F u : Int)) := by rw [hF]; exact cell_later hbel (HI.out.2.1.cell (by omega))
      have A : Aside (Bools wr w.heap.size n seen ∧ Arr wr (w.heap.size + 1) n (fun i => (q i : Int)) ∧ Below w.heap.size w wr ∧ Bfs n src L av sf sc seen q head tail ∧ u = q head ∧ RV (Go1 sf sc) src av u ∧ (∀ i, F i = sf i)) := ⟨r1, r2, hbel, hB, hu, hq.2.2, hF⟩
      clear r1 r2 hbel hB hu hq hF G
      go_wp2
      clear g1 g2
      obtain ⟨wo, hwo⟩ : ∃ wo : World, wo = wr := ⟨_, rfl⟩
      go_loopg [14, 16] (F (u + 1) - F u) (fun g s14 s16 wr => ∃ (k tail : Nat) (seen : Nat → Bool) (q : Nat → Nat), F u ≤ k ∧ k ≤ F (u + 1) ∧ g = F (u + 1) - k ∧ s14 = .int .i64 tail ∧ s16 = .int .i32 k ∧ head < tail ∧ Bools wr w.heap.size n seen ∧ Arr wr (w.heap.size + 1) n (fun i => (q i : Int)) ∧ Below w.heap.size w wr ∧ Bfs n src L av sf sc seen q head tail ∧ u = q head ∧ ∀ k', F u ≤ k' → k' < k → (sc k' : Int) = av ∨ seen (sc k') = true)
      case atStart => exact ⟨F u, tail, seen, q, Nat.le_refl _, hF1, rfl, rfl, rfl, hlt, A.out.1, A.out.2.1, A.out.2.2.1, A.out.2.2.2.1, A.out.2.2.2.2.1, fun k' h1 h2 => by omega⟩
      case round =>
        clear hwo
        have HF : Aside (RV (Go1 sf sc) src av u ∧ (∀ i, F i = sf i)) := ⟨A.out.2.2.2.2.2.1, A.out.2.2.2.2.2.2⟩
        clear A
        obtain ⟨k, tail, seen, q, hk1, hk2, rfl, rfl, rfl, hht2, r1, r2, hbel, hB, hu, hsc⟩ := hrel
        have g2 : wr.cell? ⟨b3, u + 1, none⟩ = some (.int .i32 (F (u + 1) : Int)) := by rw [HF.out.2]; exact cell_later hbel (HI.out.2.1.cell (by omega))
        by_cases hlt2 : k < F (u + 1)
        · obtain ⟨t, ht⟩ : ∃ t, t = sc k := ⟨_, rfl⟩
          have htn2 : t < n := by rw [ht]; exact HI.out.1.lt k (by omega)
          have g3 : wr.cell? ⟨b4, k, none⟩ = some (.int .i32 (t : Int)) := by rw [ht]; exact cell_later hbel (HI.out.2.2.cell (by omega))
          by_cases c1 : (t : Int) = av
          · have t1 : ((t : Int) != av) = false := by simp; exact c1
            have B : Aside (Bools wr w.heap.size n seen ∧ Arr wr (w.heap.size + 1) n (fun i => (q i : Int)) ∧ Below w.heap.size w wr ∧ Bfs n src L av sf sc seen q head tail ∧ u = q head ∧ (∀ k', F u ≤ k' → k' < k + 1 → (sc k' : Int) = av ∨ seen (sc k') = true)) := ⟨r1, r2, hbel, hB, hu, fun k' h1 h2 => by
              by_cases e : k' = k
              · subst e; rw [← ht]; exact .inl c1
              · exact hsc k' h1 (by omega)⟩
            clear r1 r2 hbel hB hu hsc ht
            go_wp2
            go_roundg (F (u + 1) - (k + 1))
            case rel => go_light; exact ⟨k + 1, tail, seen, q, by omega, by omega, rfl, rfl, by go_num, hht2, B.out.1, B.out.2.1, B.out.2.2.1, B.out.2.2.2.1, B.out.2.2.2.2.1, B.out.2.2.2.2.2⟩
            case measure => go_light; omega
          · have t1 : ((t : Int) != av) = true := by simp; exact c1
            cases hsn : seen t with
            | true =>
              have g4 : wr.cell? ⟨w.heap.size, t, none⟩ = some (.bool true) := by rw [← hsn]; exact r1.cell htn2
              have B : Aside (Bools wr w.heap.size n seen ∧ Arr wr (w.heap.size + 1) n (fun i => (q i : Int)) ∧ Below w.heap.size w wr ∧ Bfs n src L av sf sc seen q head tail ∧ u = q head ∧ (∀ k', F u ≤ k' → k' < k + 1 → (sc k' : Int) = av ∨ seen (sc k') = true)) := ⟨r1, r2, hbel, hB, hu, fun k' h1 h2 => by
                by_cases e : k' = k
                · subst e; rw [← ht]; exact .inr hsn
                · exact hsc k' h1 (by omega)⟩
              clear r1 r2 hbel hB hu hsc ht hsn
              go_wp2
              go_roundg (F (u + 1) - (k + 1))
              case rel => go_light; exact ⟨k + 1, tail, seen, q, by omega, by omega, rfl, rfl, by go_num, hht2, B.out.1, B.out.2.1, B.out.2.2.1, B.out.2.2.2.1, B.out.2.2.2.2.1, B.out.2.2.2.2.2⟩
              case measure => go_light; omega
            | false =>
              have hvis := hB.visit hun HF.out.1 (by rw [← HF.out.2]; exact hk1) (by rw [← HF.out.2]; exact hlt2) (by rw [← ht]; exact htn2) (by rw [← ht]; exact c1) (by rw [← ht]; exact hsn)
              rw [← ht] at hvis
              have htl : tail < n := hvis.1
              have g4 : wr.cell? ⟨w.heap.size, t, none⟩ = some (.bool false) := by rw [← hsn]; exact r1.cell htn2
              have g5 : wr.frozen? ⟨w.heap.size, t, none⟩ = false := World.rowIs.frozen r1 _
              have g6 : wr.cell? ⟨w.heap.size + 1, tail, none⟩ = some (.int .i32 (q tail : Int)) := r2.cell htl
              have g7 : wr.frozen? ⟨w.heap.size + 1, tail, none⟩ = false := r2.frozen _
              have B : Aside (Bools wr w.heap.size n seen ∧ Arr wr (w.heap.size + 1) n (fun i => (q i : Int)) ∧ Below w.heap.size w wr ∧ Bfs n src L av sf sc (updN seen t true) (updN q tail t) head (tail + 1) ∧ u = updN q tail t head ∧ (∀ k', F u ≤ k' → k' < k + 1 → (sc k' : Int) = av ∨ updN seen t true (sc k') = true)) := ⟨r1, r2, hbel, hvis.2, by rw [updN_ne _ _ (by omega)]; exact hu, fun k' h1 h2 => by
                by_cases e : k' = k
                · subst e; rw [← ht]; exact .inr (updN_same _ _ _)
                · rcases hsc k' h1 (by omega) with c | c
                  · exact .inl c
                  · by_cases e2 : sc k' = t
                    · rw [e2]; exact .inr (updN_same _ _ _)
                    · rw [updN_ne _ _ e2]; exact .inr c⟩
              clear r1 r2 hbel hB hu hsc ht hsn hvis
              go_wp2
              go_roundg (F (u + 1) - (k + 1))
              case rel =>
                go_light
                refine ⟨k + 1, tail + 1, updN seen t true, updN q tail t, by omega, by omega, rfl, by go_num, by go_num, by omega, (B.out.1.upd t true).other (by simp) _, ?_, (B.out.2.2.1.setCell (by simp) _).setCell (by simp) _, B.out.2.2.2.1, B.out.2.2.2.2.1, B.out.2.2.2.2.2⟩
                refine ((B.out.2.1.other (by simp) _).upd tail _).congr fun x _ => ?_
                by_cases e : x = tail
                · subst e; rw [updN_same, updN_same]
                · rw [updN_ne _ _ e, updN_ne _ _ e]
              case measure => go_light; omega
        · obtain rfl : k = F (u + 1) := by omega
          have hnx := hB.next hht2 (fun k h1 h2 => hsc k (by rw [HF.out.2, hu]; exact h1) (by rw [HF.out.2, hu]; exact h2))
          have B : Aside (Bools wr w.heap.size n seen ∧ Arr wr (w.heap.size + 1) n (fun i => (q i : Int)) ∧ Below w.heap.size w wr ∧ Bfs n src L av sf sc seen q (head + 1) tail) := ⟨r1, r2, hbel, hnx⟩
          have htn3 : tail ≤ n := by have := hB.fr; omega
          clear r1 r2 hbel hB hu hsc hnx
          go_wp2
          go_roundg (n - (head + 1))
          case rel => go_light; exact ⟨head + 1, tail, seen, q, rfl, by go_num, rfl, B.out.1, B.out.2.1, B.out.2.2.1, B.out.2.2.2⟩
          case measure => go_light; omega
    · obtain rfl : head = tail := by omega
      have B : Aside (Bools wr w.heap.size n seen ∧ Below w.heap.size w wr ∧ ∀ v, v < n → (seen v = true ↔ RV (Go1 sf sc) src av v)) := ⟨r1, hbel, hB.over HI.out.1 hs⟩
      clear r1 r2 hbel hB
      go_wp2
      go_ret
      exact ⟨_, _, rfl, Nat.le_refl _, B.out.1, B.out.2.2, B.out.2.1⟩
end Go.Proofs.Qxb6602963a
