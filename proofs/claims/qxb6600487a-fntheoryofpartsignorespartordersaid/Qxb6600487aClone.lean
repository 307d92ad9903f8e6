import Derived.Test.Qxb6600487aMem
namespace Go.Proofs.Qxb6600487a
open Go.RowKit

theorem cloneInts (a : Option Addr) (len cap : Nat) (f : Nat → Int) (w : World) (hr : Reads w a len (fun i => .int .i64 (f i))) (hl : len ≤ 1048576) (hz : a = none → len = 0) :
    Calls Try.prog 26 #[.slice a len cap] w fun e w' => Cloned w len (fun i => .int .i64 (f i)) e w' := by
  have q28 : ∀ (w : World) (a : Option Addr) (n c n' c' : Nat), (binOp .eql 28 (.slice a n c) (.slice none n' c')).run Try.prog w = .ok (.bool a.isNone) w := fun w a n c n' c' => Lib.run_eql_slice_nil w _ _ a n c n' c' Try.underlying28
  have hmk := run_make_row' (P := Try.prog) 28 3 (.int .i64 0) 8 Try.underlying28 Try.info3 rfl .i64 .i64 len (by omega) (by omega)
  cases a with
  | none =>
    obtain rfl := hz rfl
    go_enter Try.func26, Try.ntmps26
    go_wp2
    go_ret
    exact ⟨none, 0, rfl, fun h => absurd h (by omega), Below.refl _ _⟩
  | some x =>
    clear hz
    go_enter Try.func26, Try.ntmps26
    go_wp2
    clear hmk q28
    go_loopg [4] len (fun g i wr => ∃ k : Nat, k ≤ len ∧ g = len - k ∧ i = .int .i64 k ∧ Below w.heap.size w wr ∧ wr.rowIs w.heap.size 3 len (fun j => if j < k then .int .i64 (f j) else .int .i64 0))
    case atStart => exact ⟨0, Nat.zero_le _, rfl, rfl, (Below.refl _ _).alloc (Nat.le_refl _) _, (World.rowIs_made w _ len 3).congr (fun j _ => by simp)⟩
    case round =>
      obtain ⟨k, hk, rfl, rfl, hbel, hrow⟩ := hrel
      by_cases hlt : k < len
      · have hlz : (k : Int) < (len : Int) := by omega
        obtain ⟨b, off, hx, hc⟩ := hr (by omega)
        obtain rfl := Option.some.inj hx
        have g0 : wr.cell? ⟨b, off + k, none⟩ = some (.int .i64 (f k)) := cell_later hbel (hc k hlt)
        have g1 := hrow.cell hlt
        have g2 := hrow.frozen k
        simp only [Nat.lt_irrefl, if_false] at g1
        have A : Aside (Below w.heap.size w wr ∧ wr.rowIs w.heap.size 3 len (fun j => if j < k then .int .i64 (f j) else .int .i64 0)) := ⟨hbel, hrow⟩
        clear hbel hrow hc hr hx
        go_wp2
        go_roundg (len - (k + 1))
        case rel =>
          go_light
          obtain ⟨hbel, hrow⟩ := A.out
          exact ⟨k + 1, by omega, rfl, by go_num, hbel.setCell (Nat.le_refl _) _, row_step (f := fun j => .int .i64 (f j)) hrow⟩
        case measure => go_light; omega
      · have hlz : ¬ (k : Int) < (len : Int) := by omega
        obtain rfl : k = len := by omega
        have A : Aside (Below w.heap.size w wr ∧ wr.rowIs w.heap.size 3 k (fun j => if j < k then .int .i64 (f j) else .int .i64 0)) := ⟨hbel, hrow⟩
        clear hbel hrow hr
        go_wp2
        go_ret
        obtain ⟨hbel, hrow⟩ := A.out
        exact ⟨_, _, rfl, Reads.of_row (hrow.congr fun j hj => by rw [if_pos hj]), hbel⟩
theorem cloneBools (a : Option Addr) (len cap : Nat) (f : Nat → Bool) (w : World) (hr : Reads w a len (fun i => .bool (f i))) (hl : len ≤ 1048576) (hz : a = none → len = 0) :
    Calls Try.prog 25 #[.slice a len cap] w fun e w' => Cloned w len (fun i => .bool (f i)) e w' := by
  have q28 : ∀ (w : World) (a : Option Addr) (n c n' c' : Nat), (binOp .eql 42 (.slice a n c) (.slice none n' c')).run Try.prog w = .ok (.bool a.isNone) w := fun w a n c n' c' => Lib.run_eql_slice_nil w _ _ a n c n' c' Try.underlying42
  have hmk := run_make_row' (P := Try.prog) 42 4 (.bool false) 1 Try.underlying42 Try.info4 rfl .i64 .i64 len (by omega) (by omega)
  cases a with
  | none =>
    obtain rfl := hz rfl
    go_enter Try.func25, Try.ntmps25
    go_wp2
    go_ret
    exact ⟨none, 0, rfl, fun h => absurd h (by omega), Below.refl _ _⟩
  | some x =>
    clear hz
    go_enter Try.func25, Try.ntmps25
    go_wp2
    clear hmk q28
    go_loopg [4] len (fun g i wr => ∃ k : Nat, k ≤ len ∧ g = len - k ∧ i = .int .i64 k ∧ Below w.heap.size w wr ∧ wr.rowIs w.heap.size 4 len (fun j => if j < k then .bool (f j) else .bool false))
    case atStart => exact ⟨0, Nat.zero_le _, rfl, rfl, (Below.refl _ _).alloc (Nat.le_refl _) _, (World.rowIs_made w _ len 4).congr (fun j _ => by simp)⟩
    case round =>
      obtain ⟨k, hk, rfl, rfl, hbel, hrow⟩ := hrel
      by_cases hlt : k < len
      · have hlz : (k : Int) < (len : Int) := by omega
        obtain ⟨b, off, hx, hc⟩ := hr (by omega)
        obtain rfl := Option.some.inj hx
        have g0 : wr.cell? ⟨b, off + k, none⟩ = some (.bool (f k)) := cell_later hbel (hc k hlt)
        have g1 := hrow.cell hlt
        have g2 := hrow.frozen k
        simp only [Nat.lt_irrefl, if_false] at g1
        have A : Aside (Below w.heap.size w wr ∧ wr.rowIs w.heap.size 4 len (fun j => if j < k then .bool (f j) else .bool false)) := ⟨hbel, hrow⟩
        clear hbel hrow hc hr hx
        go_wp2
        go_roundg (len - (k + 1))
        case rel =>
          go_light
          obtain ⟨hbel, hrow⟩ := A.out
          exact ⟨k + 1, by omega, rfl, by go_num, hbel.setCell (Nat.le_refl _) _, row_step (f := fun j => .bool (f j)) hrow⟩
        case measure => go_light; omega
      · have hlz : ¬ (k : Int) < (len : Int) := by omega
        obtain rfl : k = len := by omega
        have A : Aside (Below w.heap.size w wr ∧ wr.rowIs w.heap.size 4 k (fun j => if j < k then .bool (f j) else .bool false)) := ⟨hbel, hrow⟩
        clear hbel hrow hr
        go_wp2
        go_ret
        obtain ⟨hbel, hrow⟩ := A.out
        exact ⟨_, _, rfl, Reads.of_row (hrow.congr fun j hj => by rw [if_pos hj]), hbel⟩
theorem cloneU8s (a : Option Addr) (len cap : Nat) (f : Nat → Int) (w : World) (hr : Reads w a len (fun i => .int .u8 (f i))) (hl : len ≤ 1048576) (hz : a = none → len = 0) :
    Calls Try.prog 27 #[.slice a len cap] w fun e w' => Cloned w len (fun i => .int .u8 (f i)) e w' := by
  have q28 : ∀ (w : World) (a : Option Addr) (n c n' c' : Nat), (binOp .eql 22 (.slice a n c) (.slice none n' c')).run Try.prog w = .ok (.bool a.isNone) w := fun w a n c n' c' => Lib.run_eql_slice_nil w _ _ a n c n' c' Try.underlying22
  have hmk := run_make_row' (P := Try.prog) 22 5 (.int .u8 0) 1 Try.underlying22 Try.info5 rfl .i64 .i64 len (by omega) (by omega)
  cases a with
  | none =>
    obtain rfl := hz rfl
    go_enter Try.func27, Try.ntmps27
    go_wp2
    go_ret
    exact ⟨none, 0, rfl, fun h => absurd h (by omega), Below.refl _ _⟩
  | some x =>
    clear hz
    go_enter Try.func27, Try.ntmps27
    go_wp2
    clear hmk q28
    go_loopg [4] len (fun g i wr => ∃ k : Nat, k ≤ len ∧ g = len - k ∧ i = .int .i64 k ∧ Below w.heap.size w wr ∧ wr.rowIs w.heap.size 5 len (fun j => if j < k then .int .u8 (f j) else .int .u8 0))
    case atStart => exact ⟨0, Nat.zero_le _, rfl, rfl, (Below.refl _ _).alloc (Nat.le_refl _) _, (World.rowIs_made w _ len 5).congr (fun j _ => by simp)⟩
    case round =>
      obtain ⟨k, hk, rfl, rfl, hbel, hrow⟩ := hrel
      by_cases hlt : k < len
      · have hlz : (k : Int) < (len : Int) := by omega
        obtain ⟨b, off, hx, hc⟩ := hr (by omega)
        obtain rfl := Option.some.inj hx
        have g0 : wr.cell? ⟨b, off + k, none⟩ = some (.int .u8 (f k)) := cell_later hbel (hc k hlt)
        have g1 := hrow.cell hlt
        have g2 := hrow.frozen k
        simp only [Nat.lt_irrefl, if_false] at g1
        have A : Aside (Below w.heap.size w wr ∧ wr.rowIs w.heap.size 5 len (fun j => if j < k then .int .u8 (f j) else .int .u8 0)) := ⟨hbel, hrow⟩
        clear hbel hrow hc hr hx
        go_wp2
        go_roundg (len - (k + 1))
        case rel =>
          go_light
          obtain ⟨hbel, hrow⟩ := A.out
          exact ⟨k + 1, by omega, rfl, by go_num, hbel.setCell (Nat.le_refl _) _, row_step (f := fun j => .int .u8 (f j)) hrow⟩
        case measure => go_light; omega
      · have hlz : ¬ (k : Int) < (len : Int) := by omega
        obtain rfl : k = len := by omega
        have A : Aside (Below w.heap.size w wr ∧ wr.rowIs w.heap.size 5 k (fun j => if j < k then .int .u8 (f j) else .int .u8 0)) := ⟨hbel, hrow⟩
        clear hbel hrow hr
        go_wp2
        go_ret
        obtain ⟨hbel, hrow⟩ := A.out
        exact ⟨_, _, rfl, Reads.of_row (hrow.congr fun j hj => by rw [if_pos hj]), hbel⟩
end Go.Proofs.Qxb6600487a
