import Derived.Test.Qxb6603969aOffs
import Derived.Sort.WalkA
namespace Go.Proofs.Qxb6603969a
open Go.RowKit Go.Sort
set_option linter.unusedVariables false

/-- an element of the sorted row -/
abbrev enc : Int → Value := Value.int .u16

theorem nan55 (x : Int) (w : World) : Calls Try.prog 55 #[enc x] w fun e w' => e = .returned (.bool false) ∧ w' = w := by
  go_enter Try.func55, Try.ntmps55
  go_wp2
  go_ret
  exact ⟨by simp, rfl⟩

theorem less45 (x y : Int) (w : World) : Calls Try.prog 45 #[enc x, enc y] w fun e w' => e = .returned (.bool (ltInt x y)) ∧ w' = w := by
  go_enter Try.func45, Try.ntmps45
  go_wp2_with (go_at_call 55; refine (nan55 _ _).mono ?_; rintro e w' ⟨rfl, rfl⟩)
  go_ret
  exact ⟨rfl, rfl⟩
end Go.Proofs.Qxb6603969a
