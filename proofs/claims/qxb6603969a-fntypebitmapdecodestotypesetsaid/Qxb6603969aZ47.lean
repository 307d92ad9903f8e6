import Derived.Test.Qxb6603969aT4
import Derived.Deep.WholeRow
namespace Go.Proofs.Qxb6603969a
open Go.RowKit
set_option linter.unusedVariables false

def zb0 : List Value := List.replicate 64 (.bool false)
def zb1 : List Value := List.append zb0 zb0
def zb2 : List Value := List.append zb1 zb1
def zb3 : List Value := List.append zb2 zb2
def zb4 : List Value := List.append zb3 zb3
def zb5 : List Value := List.append zb4 zb4
def zb6 : List Value := List.append zb5 zb5
def zb7 : List Value := List.append zb6 zb6
def zb8 : List Value := List.append zb7 zb7
def zb9 : List Value := List.append zb8 zb8
def zb10 : List Value := List.append zb9 zb9

theorem zb_twice {a : List Value} {n : Nat} (h : a = List.replicate n (.bool false)) : List.append a a = List.replicate (n + n) (.bool false) := by
  rw [h]; exact List.replicate_append_replicate
theorem zb0_eq : zb0 = List.replicate 64 (.bool false) := rfl
theorem zb1_eq : zb1 = List.replicate 128 (.bool false) := zb_twice (n := 64) zb0_eq
theorem zb2_eq : zb2 = List.replicate 256 (.bool false) := zb_twice (n := 128) zb1_eq
theorem zb3_eq : zb3 = List.replicate 512 (.bool false) := zb_twice (n := 256) zb2_eq
theorem zb4_eq : zb4 = List.replicate 1024 (.bool false) := zb_twice (n := 512) zb3_eq
theorem zb5_eq : zb5 = List.replicate 2048 (.bool false) := zb_twice (n := 1024) zb4_eq
theorem zb6_eq : zb6 = List.replicate 4096 (.bool false) := zb_twice (n := 2048) zb5_eq
theorem zb7_eq : zb7 = List.replicate 8192 (.bool false) := zb_twice (n := 4096) zb6_eq
theorem zb8_eq : zb8 = List.replicate 16384 (.bool false) := zb_twice (n := 8192) zb7_eq
theorem zb9_eq : zb9 = List.replicate 32768 (.bool false) := zb_twice (n := 16384) zb8_eq
theorem zb10_eq : zb10 = List.replicate 65536 (.bool false) := zb_twice (n := 32768) zb9_eq

theorem info47 : (Try.prog.info? 47).map (fun i => (i.zero, i.size)) = some (some (.agg (List.toArray zb10)), 65536) := by kernel_rfl

/-- the zero value of [65536]bool -/
theorem zero47 : ∃ cs : Array Value, (∀ w, (zeroValue 47).run Try.prog w = .ok (.agg cs) w) ∧ cs.size = 65536 ∧ ∀ i, i < 65536 → cs[i]? = some (.bool false) := by
  refine ⟨_, (zero_of_info info47).1, ?_, fun i hi => ?_⟩
  · rw [List.size_toArray, zb10_eq, List.length_replicate]
  · rw [List.getElem?_toArray, zb10_eq, List.getElem?_replicate, if_pos hi]
end Go.Proofs.Qxb6603969a
