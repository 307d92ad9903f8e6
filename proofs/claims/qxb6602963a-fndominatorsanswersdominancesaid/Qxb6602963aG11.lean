import Derived.Test.Qxb6602963aG10
import Derived.Test.Qxb6602963aMz
namespace Go.Proofs.Qxb6602963a
open Go.RowKit
set_option linter.unusedVariables false


set_option maxHeartbeats 4000000 in
set_option maxRecDepth 100000 in
theorem zdom19 (src b1 o1 c1 : Nat) (a2 : Option Addr) (n L c2 : Nat) (pf pr : Nat → Nat) (w : World) (W : Well n L pf pr) (hn : 1 ≤ n) (hn2 : n ≤ 4096) (hL : L ≤ 65536) (hLc : L ≤ c2) (hs : src < n) (h1 : Row w b1 o1 (n + 1) pf) (h2 : Reads w a2 L (fun i => .int .i32 (pr i : Int))) :
    Calls Try.prog 19 #[.int .i64 src, .slice (some ⟨b1, o1, none⟩) (n + 1) c1, .slice a2 L c2] w fun e w' => ZPost n L src pf pr w e w' := by
  have HI : Aside (Well n L pf pr ∧ Row w b1 o1 (n + 1) pf ∧ Reads w a2 L (fun i => .int .i32 (pr i : Int))) := ⟨W, h1, h2⟩
  clear W h1 h2
  go_enter Try.func19, Try.ntmps19
  go_wp2_with fail
  refine (dom27 src b1 o1 c1 a2 n L c2 pf pr w HI.out.1 hn hn2 hL hLc hs HI.out.2.1 HI.out.2.2).mono ?_
  rintro r w1 ⟨bp, bq, bs, m, sf, sc, V, d, num, span, pre, post, preV, postV, P, rfl, r1, r2, r3, hG, hf, hF, hN, hR, l1, l2, hbel⟩
  have HZ : Aside (Arr w1 bp n preV ∧ Arr w1 bq n postV ∧ Arr w1 bs n span ∧ Below w.heap.size w w1 ∧ ∀ (sf2 sc2 : Nat → Nat) (S : Nat → Bool), Gr n L sf2 sc2 → (∀ u v, u < n → v < n → (Go1 sf2 sc2 u v ↔ Fits n pf pr u v)) → (∀ v, v < n → (S v = true ↔ RV (Go1 sf2 sc2) src (-1) v)) → Ans n src (Go1 sf2 sc2) (Fits n pf pr) S preV postV span) :=
    ⟨r1, r2, r3, hbel, fun sf2 sc2 S g2 f2 hS => ans_of hs hG hf g2 f2 hF hN hR l1 l2 hS⟩
  clear r1 r2 r3 hG hf hF hN hR l1 l2 hbel
  go_wp2
  go_quiet (fail)
  go_wp2
  obtain ⟨z1, z2, z3, z4, z5⟩ := HZ.out
  go_ret3
  exact ⟨bp, bq, bs, preV, postV, span, rfl, (z1.alloc _).drewN _, (z2.alloc _).drewN _, (z3.alloc _).drewN _, below_drewN (z4.alloc z4.size _) _, z5⟩
end Go.Proofs.Qxb6602963a
