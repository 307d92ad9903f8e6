import Derived.Test.Qxb6603969aChecked
import Derived.Test.Qxb6603969aKey
import Derived.WalkSpells
import Derived.WalkLawsBesides
import Derived.Deep.OwnRows
import Derived.Deep.LoopGhost
import Derived.Deep.Light
import Derived.Deep.QuietTactic
import Derived.Deep.DeepCutAuto
import Derived.BigQuiet
import Derived.BigRegion
namespace Go.Proofs.Qxb6603969a
open Go.RowKit
set_option linter.unusedVariables false

/-- the i-th octet of a string (0 beyond its end) -/
def oct (s : ByteArray) (i : Nat) : Nat := (s.data.toList.getD i 0).toNat

theorem oct_eq (s : ByteArray) (i : Nat) (h : i < s.size) : (s[i]'h).toNat = oct s i := by
  have h' : i < s.data.toList.length := by simpa using h
  have : s.data.toList.getD i 0 = s.data.toList[i] := by simp [List.getD, List.getElem?_eq_getElem h']
  unfold oct
  rw [this]
  rfl

theorem oct_lt (s : ByteArray) (i : Nat) : oct s i < 256 := by
  unfold oct
  exact UInt8.toNat_lt _

def VPost (s : ByteArray) (w : World) (e : Ending) (w' : World) : Prop :=
  ∃ b, e = .returned (.bool b) ∧ w' = w ∧ (b = true → ∃ m, Valid (oct s) s.size m)

theorem valid9 (s : ByteArray) (w : World) (hs : s.size ≤ maxLen) : Calls Try.prog 9 #[.string s] w fun e w' => VPost s w e w' := by
  unfold maxLen at hs
  by_cases h0 : s.size = 0
  · have h0' : ((s.size : Int) == 0) = true := by rw [h0]; rfl
    have H : Aside (s.size = 0) := h0
    clear h0
    go_enter Try.func9, Try.ntmps9
    go_wp2
    go_ret
    exact ⟨false, rfl, rfl, fun h => by cases h⟩
  have h0' : ((s.size : Int) == 0) = false := beq_eq_false_iff_ne.2 (by omega)
  by_cases h1 : 255 < s.size
  · go_enter Try.func9, Try.ntmps9
    go_wp2
    go_ret
    exact ⟨false, rfl, rfl, fun h => by cases h⟩
  go_enter Try.func9, Try.ntmps9
  go_wp2
  go_loopg [3] s.size (fun g o wr => ∃ j : Nat, g = s.size - off (oct s) j ∧ o = .int .i64 (off (oct s) j) ∧ wr = w ∧ off (oct s) j ≤ 510 ∧ ∀ i, i < j → oct s (off (oct s) i) ≠ 0)
  case atStart => exact ⟨0, rfl, rfl, rfl, by simp [off], fun i hi => absurd hi (by omega)⟩
  case round =>
    obtain ⟨j, rfl, rfl, rfl, hj5, hj⟩ := hrel
    have HJ : Aside (∀ i, i < j → oct s (off (oct s) i) ≠ 0) := hj
    clear hj
    generalize ho : off (oct s) j = o at *
    have HO : Aside (off (oct s) j = o) := ho
    clear ho
    by_cases hlt : o < s.size
    · have hb := oct_eq s o hlt
      have hb2 := oct_lt s o
      by_cases hz : oct s o = 0
      · by_cases hf : o + 1 = s.size
        · have hf' : ((o : Int) == (s.size : Int) - 1) = true := beq_iff_eq.2 (by omega)
          have HF : Aside (o + 1 = s.size) := hf
          clear hf
          go_wp2
          go_ret
          exact ⟨true, rfl, rfl, fun _ => ⟨j, by omega, HJ.out, by rw [HO.out]; exact HF.out, by rw [HO.out]; exact hz⟩⟩
        · have hf' : ((o : Int) == (s.size : Int) - 1) = false := beq_eq_false_iff_ne.2 (by omega)
          go_wp2
          go_ret
          exact ⟨false, rfl, rfl, fun h => by cases h⟩
      · have hz' : ((oct s o : Int) == 0) = false := beq_eq_false_iff_ne.2 (by omega)
        go_wp2
        go_roundg (s.size - off (oct s) (j + 1))
        case rel =>
          go_light
          have e : off (oct s) (j + 1) = o + (1 + oct s o) := by simp only [off]; rw [HO.out]
          refine ⟨j + 1, rfl, by rw [e]; go_num, rfl, by rw [e]; omega, fun i hi => ?_⟩
          by_cases hij : i = j
          · subst hij; rw [HO.out]; exact hz
          · exact HJ.out i (by omega)
        case measure => go_light; simp only [off]; rw [HO.out]; omega
    · go_wp2
      go_ret
      exact ⟨false, rfl, rfl, fun h => by cases h⟩

theorem low33 (c : Nat) (w : World) (hc : c < 256) : Calls Try.prog 33 #[.int .u8 (c : Int)] w fun e w' => e = .returned (.int .u8 (low c : Int)) ∧ w' = w := by
  by_cases h1 : 65 ≤ c
  · by_cases h2 : c ≤ 90
    · have e : (low c : Int) = (c : Int) + 97 - 65 := by simp only [low, if_pos (And.intro h1 h2)]; omega
      rw [e]
      clear e
      go_enter Try.func33, Try.ntmps33
      go_wp2
      go_ret
      exact ⟨rfl, rfl⟩
    · have e : low c = c := by simp only [low]; rw [if_neg (by omega)]
      rw [e]
      clear e
      go_enter Try.func33, Try.ntmps33
      go_wp2
      go_ret
      exact ⟨rfl, rfl⟩
  · have e : low c = c := by simp only [low]; rw [if_neg (by omega)]
    rw [e]
    clear e
    go_enter Try.func33, Try.ntmps33
    go_wp2
    go_ret
    exact ⟨rfl, rfl⟩

theorem low21 (c : Nat) (w : World) (hc : c < 256) : Calls Try.prog 21 #[.int .u8 (c : Int)] w fun e w' => e = .returned (.int .u8 (low c : Int)) ∧ w' = w := by
  by_cases h1 : 65 ≤ c
  · by_cases h2 : c ≤ 90
    · have e : (low c : Int) = (c : Int) + 32 := by simp only [low, if_pos (And.intro h1 h2)]; omega
      rw [e]
      clear e
      go_enter Try.func21, Try.ntmps21
      go_wp2
      go_ret
      exact ⟨rfl, rfl⟩
    · have e : low c = c := by simp only [low]; rw [if_neg (by omega)]
      rw [e]
      clear e
      go_enter Try.func21, Try.ntmps21
      go_wp2
      go_ret
      exact ⟨rfl, rfl⟩
  · have e : low c = c := by simp only [low]; rw [if_neg (by omega)]
    rw [e]
    clear e
    go_enter Try.func21, Try.ntmps21
    go_wp2
    go_ret
    exact ⟨rfl, rfl⟩

/-- (Name).label -/
theorem label29 (s : ByteArray) (o : Nat) (w : World) (ho : o < 256) (h : o + 1 + oct s o < s.size) (hs : s.size ≤ 255) :
    Calls Try.prog 29 #[.agg #[.string s], .int .u8 (o : Int)] w fun e w' => e = .returned (.string (s.extract (o + 1) (o + 1 + oct s o))) ∧ Below w.heap.size w w' := by
  have hlt : o < s.size := by omega
  have hlz : (o : Int) < (s.size : Int) := by omega
  have hb := oct_eq s o hlt
  have hb2 := oct_lt s o
  have hsl : ∀ w : World, (Instr.slice 9 (.string s) (some (.int .i64 ((o : Int) + 1))) (some (.int .i64 ((o : Int) + 1 + (oct s o : Int)))) none).run Try.prog w = .ok (.string (s.extract (o + 1) (o + 1 + oct s o))) w := fun w => by
    have := run_slice_string (P := Try.prog) w 9 s .i64 .i64 ((o : Int) + 1) ((o : Int) + 1 + (oct s o : Int)) Try.underlying9 (by omega) (by omega) (by omega)
    have e1 : ((o : Int) + 1).toNat = o + 1 := by omega
    have e2 : ((o : Int) + 1 + (oct s o : Int)).toNat = o + 1 + oct s o := by omega
    rw [e1, e2] at this
    exact this
  go_enter Try.func29, Try.ntmps29
  go_wp2
  go_quiet (fail)
  go_wp2
  go_ret
  exact ⟨rfl, below_drewN ((Below.refl _ _).alloc (Nat.le_refl _) _) _⟩
end Go.Proofs.Qxb6603969a
