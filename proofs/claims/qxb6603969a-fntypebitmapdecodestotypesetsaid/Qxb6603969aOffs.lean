import Derived.Test.Qxb6603969aStr
namespace Go.Proofs.Qxb6603969a
open Go.RowKit
set_option linter.unusedVariables false

theorem Try.info5 : (Try.prog.info? 5).map (fun i => (i.zero, i.size, i.bytes)) = some (some (.int .u8 0), 1, 1) := by kernel_rfl
theorem Try.info9 : (Try.prog.info? 9).map (fun i => (i.zero, i.size, i.bytes)) = some (some (.string ByteArray.empty), 1, 16) := by kernel_rfl

/-- nothing that was there has turned but block b -/
structure Only (b : Nat) (w w' : World) : Prop where
  os : w'.os = w.os
  tape : w'.tape = w.tape
  output : w'.output = w.output
  size : w.heap.size ≤ w'.heap.size
  block : ∀ k, k < w.heap.size → k ≠ b → w'.heap[k]? = w.heap[k]?

theorem Only.refl (b : Nat) (w : World) : Only b w w := ⟨rfl, rfl, rfl, Nat.le_refl _, fun _ _ _ => rfl⟩
theorem Only.trans {b : Nat} {w w1 w2 : World} (h : Only b w w1) (k : Only b w1 w2) : Only b w w2 :=
  ⟨k.os.trans h.os, k.tape.trans h.tape, k.output.trans h.output, Nat.le_trans h.size k.size, fun i hi hb => (k.block i (Nat.lt_of_lt_of_le hi h.size) hb).trans (h.block i hi hb)⟩
theorem Only.of_below {b : Nat} {w w1 : World} (h : Below w.heap.size w w1) : Only b w w1 := ⟨h.os, h.tape, h.output, h.size, fun k hk _ => h.block k hk⟩
theorem Only.grown {b : Nat} {w w1 : World} (h : w.grownBy w1 (some b)) : Only b w w1 := ⟨h.os, h.tape, h.output, h.size, fun k hk hb => h.block k hk (fun e => hb (Option.some.inj e))⟩
theorem Only.cell {b : Nat} {w w1 : World} (h : Only b w w1) {a : Addr} {v : Value} (hc : w.cell? a = some v) (ha : a.block ≠ b) : w1.cell? a = some v :=
  (World.cell?_of_block (w := w) (h.block _ (World.block_lt_of_cell? _ _ hc) ha)).trans hc
theorem Only.below {b B : Nat} {w w1 w2 : World} (h1 : Below B w w1) (h2 : Only b w1 w2) (hb : B ≤ b) (hB : B ≤ w1.heap.size) : Below B w w2 :=
  h1.trans ⟨h2.os, h2.tape, h2.output, h2.size, fun k hk => h2.block k (by omega) (by omega)⟩

/-- append where there is room, elements of one cell: the cells are stored in place -/
theorem wpList_append_here {P : Program} (w : World) {ops : Array Oper} {rest : List Oper} {o : Oper} {a : Act} {Q : Exit → Act → World → Prop}
    (hg : o.guard = none) (s x : Operand) (t : TypeId) (hop : o.op = Op.call { callee := Callee.builtin Builtin.append, args := #[s, x], argTypes := #[t, t] })
    (e : TypeId) (i : TypeInfo) (h1 : P.underlying t = some (.slice e)) (h2 : P.info? e = some i) (h4 : i.size = 1)
    (b off n cap : Nat) (hs : a.eval s = .slice (some ⟨b, off, none⟩) n cap) (ad : Addr) (m c : Nat) (news : List Value) (hx : a.eval x = .slice (some ad) m c) (hn : news.length = m)
    (hc : ∀ j u, news[j]? = some u → w.cell? (ad.add j) = some u) (h1c : ∀ u ∈ news, u.oneCell' = true) (hroom : n + m ≤ cap)
    (hcell : ∀ j, j < news.length → (w.cell? ⟨b, off + n + j, none⟩).isSome = true ∧ w.frozen? ⟨b, off + n + j, none⟩ = false)
    (hK : wpList P ops Q rest (a.put o.dst (.slice (some ⟨b, off, none⟩) (n + m) cap)) (w.setCells b (off + n) news)) :
    wpList P ops Q (o :: rest) a w := by
  refine wpList_plain hg fun K hK' => ?_
  have hrun := run_append_room_cells (P := P) w t o.type e i h1 h2 b off n cap ad m c news (by rw [h4, Nat.mul_one]; exact hn) hc h1c hroom (fun j hj => by rw [h4, Nat.mul_one]; exact (hcell j hj).1) (fun j hj => by rw [h4, Nat.mul_one]; exact (hcell j hj).2)
  rw [h4, Nat.mul_one] at hrun
  unfold Oper.wp
  simp [execOp, hop, resolve, invoke, builtin, hs, hx, hrun, Result.andThen]
  exact hK' _ _ hK

theorem Only.setCell {b : Nat} {w w1 : World} (h : Only b w w1) {a : Addr} (ha : a.block = b ∨ w.heap.size ≤ a.block) (v : Value) : Only b w (w1.setCell a v) :=
  ⟨h.os, h.tape, h.output, by simpa [World.setCell] using h.size, fun k hk hb => (Below.heap_setCell _ _ _ _ (by rcases ha with h1 | h1 <;> omega)).trans (h.block k hk hb)⟩

theorem row_step {w : World} {b : Nat} {t : TypeId} {n k : Nat} {f : Nat → Value} {z : Value} (h : w.rowIs b t n (fun j => if j < k then f j else z)) :
    (w.setCell ⟨b, k, none⟩ (f k)).rowIs b t n (fun j => if j < k + 1 then f j else z) := by
  refine (h.set k (f k)).congr fun j _ => ?_
  by_cases e : j = k
  · subst e; simp
  · rw [if_neg e]
    by_cases hlt : j < k
    · rw [if_pos hlt, if_pos (by omega)]
    · rw [if_neg hlt, if_neg (by omega)]

def OffPost (s : ByteArray) (m b : Nat) (t : TypeId) (w : World) (e : Ending) (w' : World) : Prop :=
  e = .returned (.slice (some ⟨b, 0, none⟩) m 127) ∧ w'.rowIs b t 127 (fun j => if j < m then .int .u8 (off (oct s) j : Int) else .int .u8 0) ∧ Only b w w'

theorem offs32 (s : ByteArray) (m b : Nat) (t : TypeId) (w : World) (V : Valid (oct s) s.size m) (hrow : w.rowIs b t 127 (fun _ => .int .u8 0)) :
    Calls Try.prog 32 #[.agg #[.string s], .slice (some ⟨b, 0, none⟩) 0 127] w fun e w' => OffPost s m b t w e w' := by
  obtain ⟨i0, hi, hz0, hz1, hz2⟩ := info_parts Try.info5
  have hsm := V.small
  have hm := V.m_le
  have hb := hrow.lt
  have VV : Aside (Valid (oct s) s.size m) := V
  have OW : Aside (w.rowIs b t 127 (fun _ => .int .u8 0)) := hrow
  clear V hrow
  go_enter Try.func32, Try.ntmps32
  go_wp2
  go_loopg [1, 5] m (fun g v o wr => ∃ j : Nat, j ≤ m ∧ g = m - j ∧ v = .slice (some ⟨b, 0, none⟩) j 127 ∧ o = .int .i64 (off (oct s) j) ∧ wr.cell? ⟨w.heap.size, 0, none⟩ = some (.string s) ∧ wr.rowIs b t 127 (fun i => if i < j then .int .u8 (off (oct s) i : Int) else .int .u8 0) ∧ Only b w wr)
  case atStart => exact ⟨0, Nat.zero_le _, rfl, rfl, rfl, by simp, (OW.out.alloc _).congr fun i _ => by simp, Only.of_below ((Below.refl _ _).alloc (Nat.le_refl _) _)⟩
  case round =>
    obtain ⟨j, hj, rfl, rfl, rfl, hc, ho, hO⟩ := hrel
    have hlt : off (oct s) j < s.size := by
      have h1 := off_mono (oct s) hj
      have h2 := VV.out.fin
      omega
    have hb1 := oct_eq s _ hlt
    have hb2 := oct_lt s (off (oct s) j)
    have hlz : (off (oct s) j : Int) < (s.size : Int) := by omega
    have OO : Aside (Only b w wr ∧ wr.rowIs b t 127 (fun i => if i < j then .int .u8 (off (oct s) i : Int) else .int .u8 0)) := ⟨hO, ho⟩
    clear hO ho
    by_cases hjm : j < m
    · have hnz := VV.out.lens j hjm
      have hnz' : ((oct s (off (oct s) j) : Int) != 0) = true := by simp; omega
      have EN : Aside (off (oct s) (j + 1) = off (oct s) j + (1 + oct s (off (oct s) j))) := rfl
      have hnx := VV.out.lt hjm
      generalize hoo : off (oct s) j = o at *
      have HO : Aside (off (oct s) j = o) := hoo
      clear hoo
      have hS : ∀ (O : Obj) (i : Nat), i < [Value.int .u8 (o : Int)].length → ((wr.alloc O).cell? ⟨b, 0 + j + i, none⟩).isSome = true ∧ (wr.alloc O).frozen? ⟨b, 0 + j + i, none⟩ = false := fun O i hi => by
        obtain rfl : i = 0 := by simpa using hi
        have h1 := (OO.out.2.alloc O).cell (i := j) (by omega)
        have h2 := (OO.out.2.alloc O).frozen j
        simp only [Nat.zero_add, Nat.add_zero]
        exact ⟨by rw [h1]; rfl, h2⟩
      have HS : Aside (∀ (O : Obj) (i : Nat), i < [Value.int .u8 (o : Int)].length → ((wr.alloc O).cell? ⟨b, 0 + j + i, none⟩).isSome = true ∧ (wr.alloc O).frozen? ⟨b, 0 + j + i, none⟩ = false) := hS
      clear hS
      have hbz : b ≠ w.heap.size := by omega
      have hsz : w.heap.size < wr.heap.size := World.block_lt_of_cell? _ _ hc
      go_wp2_with (at_builtin; refine wpList_append_here _ rfl (.tmp 26) (.tmp 29) 22 rfl 5 i0 Try.underlying22 hi hz1 b 0 j 127 rfl ⟨wr.heap.size, 0, none⟩ 1 1 [.int .u8 (o : Int)] rfl rfl (cell_one_new _ _ _) (by simp [Value.oneCell']) (by omega) (HS.out _) ?_; simp only [World.setCells, Nat.zero_add])
      go_roundg (m - (j + 1))
      case rel =>
        go_light
        refine ⟨j + 1, by omega, rfl, rfl, by rw [EN.out]; go_num, ?_, ?_, ?_⟩
        · rw [World.cell?_setCell_other _ _ _ _ (fun e => hbz (congrArg Addr.block e))]
          exact cell_later ((Below.refl _ _).alloc (Nat.le_refl _) _) hc
        · have h1 := row_step (f := fun i => .int .u8 (off (oct s) i : Int)) (OO.out.2.alloc (.cells #[.int .u8 (o : Int)] 5))
          rw [HO.out] at h1
          exact h1
        · exact (OO.out.1.trans (Only.of_below ((Below.refl _ _).alloc (Nat.le_refl _) _))).setCell (.inl rfl) _
      case measure => go_light; omega
    · obtain rfl : j = m := by omega
      have hz := VV.out.zero
      have hz' : ((oct s (off (oct s) j) : Int) != 0) = false := by rw [hz]; rfl
      clear hz
      go_wp2
      go_ret
      exact ⟨rfl, OO.out.2, OO.out.1⟩
end Go.Proofs.Qxb6603969a
