import Derived.Test.Qxb6603969aCmp
import Derived.Test.Qxb6603969aKeyW
namespace Go.Proofs.Qxb6603969a
open Go.RowKit
set_option linter.unusedVariables false

def AnyBool (w : World) (e : Ending) (w' : World) : Prop := ∃ b, e = .returned (.bool b) ∧ w' = w

theorem bytes22 (s1 s2 : ByteArray) (w : World) (h1 : s1.size ≤ maxLen) (h2 : s2.size ≤ maxLen) : Calls Try.prog 22 #[.string s1, .string s2] w fun e w' => AnyBool w e w' := by
  unfold maxLen at h1 h2
  go_enter Try.func22, Try.ntmps22
  go_wp2
  all_goals (go_ret; exact ⟨_, rfl, rfl⟩)

theorem name11 (s : ByteArray) (w : World) : Calls Try.prog 11 #[.string s] w fun e w' => e = .returned (.agg #[.string s]) ∧ Below w.heap.size w w' := by
  go_enter Try.func11, Try.ntmps11
  go_wp2
  exact bodyPost_ret (v := .agg #[.string s]) (by simp [results, Try.results11, go_sem]) rfl ⟨rfl, (Below.refl _ _).alloc (Nat.le_refl _) _⟩

theorem fl_self (k : List Nat) : fl (fun i => k.getD i 0) k.length = k := by
  refine List.ext_getElem (by simp [fl]) fun i h1 h2 => ?_
  simp [fl, List.getD, List.getElem?_eq_getElem h2]

theorem own_bytes {w : World} {B : Nat} {v : Value} {k : List Nat} (h : w.ownsRow B 5 1 v k.length (bytesV k)) : ∃ a c, v = .slice a k.length c ∧ k.length ≤ maxLen ∧ Reads w a k.length (fun i => .int .u8 ((k.getD i 0 : Nat) : Int)) := by
  obtain ⟨a, c, hv, hm, hr⟩ := own_reads h
  refine ⟨a, c, hv, hm, fun hn => ?_⟩
  obtain ⟨b, off, ha, hc⟩ := hr hn
  refine ⟨b, off, ha, fun i hi => ?_⟩
  rw [hc i hi]
  simp [bytesV, List.getD, List.getElem?_eq_getElem hi]

set_option maxHeartbeats 2000000 in
theorem law6 (s1 s2 : ByteArray) (w : World) (h1 : s1.size ≤ maxLen) (h2 : s2.size ≤ maxLen) :
    Calls Try.prog 6 #[.string s1, .string s2] w fun e w' => e = .returned (.bool true) ∧ Below w.heap.size w w' := by
  have B22 := bytes22 s1 s2 w h1 h2
  have V1 := valid9 s1 w h1
  have V2 := valid9 s2 w h2
  unfold maxLen at h1 h2
  by_cases t0 : 1048576 < s1.size
  · go_enter Try.func6, Try.ntmps6
    go_wp2_with (go_at_call 22; refine B22.mono ?_; rintro r w' ⟨B, rfl, rfl⟩)
    all_goals (go_ret; exact ⟨rfl, Below.refl _ _⟩)
  by_cases t1 : 1048576 < s2.size
  · go_enter Try.func6, Try.ntmps6
    go_wp2_with (go_at_call 22; refine B22.mono ?_; rintro r w' ⟨B, rfl, rfl⟩)
    all_goals (go_ret; exact ⟨rfl, Below.refl _ _⟩)
  by_cases t2 : 1048576 < s1.size + s2.size
  · go_enter Try.func6, Try.ntmps6
    go_wp2_with (go_at_call 22; refine B22.mono ?_; rintro r w' ⟨B, rfl, rfl⟩)
    all_goals (go_ret; exact ⟨rfl, Below.refl _ _⟩)
  go_enter Try.func6, Try.ntmps6
  go_wp2_with fail
  refine B22.mono ?_
  rintro r w' ⟨B, rfl, hw⟩
  have hw2 := hw.symm
  subst hw2
  clear B22 hw
  cases B with
  | false =>
    go_wp2_with fail
    go_ret
    exact ⟨rfl, Below.refl _ _⟩
  | true =>
  go_wp2_with fail
  refine V1.mono ?_
  rintro r w' ⟨B, rfl, hw, hV1⟩
  have hw2 := hw.symm
  subst hw2
  clear V1 hw
  cases B with
  | false =>
    go_wp2_with fail
    go_ret
    exact ⟨rfl, Below.refl _ _⟩
  | true =>
  obtain ⟨m1, W1⟩ := hV1 rfl
  have VV1 : Aside (Valid (oct s1) s1.size m1) := W1
  clear hV1 W1
  go_wp2_with fail
  refine V2.mono ?_
  rintro r w' ⟨B, rfl, hw, hV2⟩
  have hw2 := hw.symm
  subst hw2
  clear V2 hw
  cases B with
  | false =>
    go_wp2_with fail
    go_ret
    exact ⟨rfl, Below.refl _ _⟩
  | true =>
  obtain ⟨m2, W2⟩ := hV2 rfl
  have VV : Aside (Valid (oct s1) s1.size m1 ∧ Valid (oct s2) s2.size m2) := ⟨VV1.out, W2⟩
  clear hV2 W2
  go_wp2_with fail
  refine (name11 s1 _).mono ?_
  rintro r w1 ⟨rfl, hb1⟩
  go_wp2_with fail
  refine (key18 s1 m1 _ VV.out.1).mono ?_
  rintro r w2 ⟨v1, rfl, o1, hb2⟩
  obtain ⟨a1, c1, rfl, l1, R1⟩ := own_bytes o1
  have bel := hb1.trans (hb2.mono hb1.size)
  clear o1 hb1 hb2
  go_wp2_with fail
  refine (name11 s2 _).mono ?_
  rintro r w3 ⟨rfl, hb3⟩
  have R1 := R1.below hb3
  have bel := bel.trans (hb3.mono bel.size)
  clear hb3
  go_wp2_with fail
  refine (key18 s2 m2 _ VV.out.2).mono ?_
  rintro r w4 ⟨v2, rfl, o2, hb4⟩
  obtain ⟨a2, c2, rfl, l2, R2⟩ := own_bytes o2
  have R1 := R1.below hb4
  have bel := bel.trans (hb4.mono bel.size)
  clear o2 hb4
  go_wp2_with fail
  refine (cmp23 a1 a2 _ _ c1 c2 _ _ w4 l1 l2 R1 R2).mono ?_
  rintro r w5 ⟨rfl, d, hw5⟩
  rw [fl_self, fl_self, key_cmp]
  subst hw5
  have bel := below_drewN bel d
  go_wp2_with fail
  refine (canon24 s1 s2 m1 m2 _ VV.out.1 VV.out.2).mono ?_
  rintro r w6 ⟨rfl, hb6⟩
  have bel := bel.trans (hb6.mono bel.size)
  clear hb6 R1 R2 l1 l2
  go_wp2
  go_ret
  exact ⟨by simp, bel⟩
end Go.Proofs.Qxb6603969a
