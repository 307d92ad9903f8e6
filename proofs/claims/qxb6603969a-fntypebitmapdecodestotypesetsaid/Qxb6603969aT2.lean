import Derived.Test.Qxb6603969aT1
namespace Go.Proofs.Qxb6603969a
open Go.RowKit
set_option linter.unusedVariables false

/-- the slice leads to n elements f 0 .. -/
def Reads (w : World) (a : Option Addr) (n : Nat) (f : Nat → Value) : Prop := 0 < n → ∃ b o, a = some ⟨b, o, none⟩ ∧ ∀ i, i < n → w.cell? ⟨b, o + i, none⟩ = some (f i)

theorem Reads.below {w w' : World} {a : Option Addr} {n : Nat} {f : Nat → Value} (h : Reads w a n f) (hb : Below w.heap.size w w') : Reads w' a n f := by
  intro hn
  obtain ⟨b, o, ha, hc⟩ := h hn
  exact ⟨b, o, ha, fun i hi => cell_later hb (hc i hi)⟩

theorem Own.reads {base : Nat} {w : World} {t : TypeId} {v : Value} {xs : List Value} (h : Own base w t v xs) : ∃ a, v = .slice a xs.length xs.length ∧ Reads w a xs.length (fun i => xs.getD i (.bool false)) := by
  rcases h with ⟨rfl, rfl⟩ | ⟨g, rfl, hb, hg⟩
  · exact ⟨none, rfl, fun h => absurd h (by simp)⟩
  · refine ⟨_, rfl, fun _ => ⟨g, 0, rfl, fun i hi => ?_⟩⟩
    rw [Nat.zero_add, cell_of_row w g i xs.toArray t (0, 0) hg]
    simp [List.getElem?_eq_getElem hi, List.getD_eq_getElem?_getD]

theorem Own.below {base B : Nat} {w w' : World} {t : TypeId} {v : Value} {xs : List Value} (h : Own base w t v xs) (hb : Below w.heap.size w w') : Own base w' t v xs := by
  rcases h with h | ⟨g, rfl, hg, hh⟩
  · exact .inl h
  · exact .inr ⟨g, rfl, hg, (hb.block g (Array.getElem?_eq_some_iff.1 hh).1).trans hh⟩

theorem types27 (base : Nat) (v : Value) (zs : List Int) (w : World) (h : Own base w 48 v (zs.map (.int .u16))) (hb : zs.length ≤ 1048576) :
    Calls Try.prog 27 #[v] w fun e w' => ClonePost 53 (zs.map (.int .u16)) w e w' := by
  have q28 : ∀ (w : World) (a : Option Addr) (n c n' c' : Nat), (binOp .eql 41 (.slice a n c) (.slice none n' c')).run Try.prog w = .ok (.bool a.isNone) w := fun w a n c n' c' => Lib.run_eql_slice_nil w _ _ a n c n' c' Try.underlying41
  have hmk := run_make_row' (P := Try.prog) 44 53 (.int .u16 0) _ Try.underlying44 Try.info53 rfl .i64 .i64 zs.length (by omega) (by omega)
  rcases h with ⟨rfl, hz⟩ | ⟨g, rfl, hg, hh⟩
  · obtain rfl : zs = [] := by simpa using hz
    go_enter Try.func27, Try.ntmps27
    go_wp2
    go_ret
    exact ⟨_, rfl, .inl ⟨rfl, rfl⟩, Below.refl _ _⟩
  · have hc : ∀ i, i < zs.length → w.cell? ⟨g, 0 + i, none⟩ = some (.int .u16 (zs.getD i 0)) := fun i hi => by
      rw [Nat.zero_add, cell_of_row w g i _ _ (0, 0) hh]
      simp [List.getElem?_eq_getElem hi, List.getD_eq_getElem?_getD]
    have hgl : g < w.heap.size := (Array.getElem?_eq_some_iff.1 hh).1
    rw [List.length_map]
    obtain ⟨len, hlen⟩ : ∃ len, len = zs.length := ⟨_, rfl⟩
    rw [← hlen] at hc hb hmk ⊢
    have HL : Aside (len = zs.length) := hlen
    clear hlen hh
    obtain ⟨F, hF⟩ : ∃ F : Nat → Int, ∀ i, F i = zs.getD i 0 := ⟨fun i => zs.getD i 0, fun _ => rfl⟩
    simp only [← hF] at hc
    have HF : Aside (∀ i, F i = zs.getD i 0) := hF
    clear hF
    go_enter Try.func27, Try.ntmps27
    go_wp2
    clear hmk q28
    go_loopg [4] len (fun g i wr => ∃ k : Nat, k ≤ len ∧ g = len - k ∧ i = .int .i64 k ∧ Below w.heap.size w wr ∧ wr.rowIs w.heap.size 53 len (fun j => if j < k then .int .u16 (F j) else .int .u16 0))
    case atStart => exact ⟨0, Nat.zero_le _, rfl, rfl, (Below.refl _ _).alloc (Nat.le_refl _) _, (World.rowIs_made w _ len 53).congr (fun j _ => by simp)⟩
    case round =>
      obtain ⟨k, hk, rfl, rfl, hbel, hrow⟩ := hrel
      by_cases hlt : k < len
      · have hlz : (k : Int) < (len : Int) := by omega
        have g0 : wr.cell? ⟨g, k, none⟩ = some (.int .u16 (F k)) := cell_later hbel (by rw [← hc k hlt, Nat.zero_add])
        have g1 := hrow.cell hlt
        have g2 := hrow.frozen k
        simp only [Nat.lt_irrefl, if_false] at g1
        have A : Aside (Below w.heap.size w wr ∧ wr.rowIs w.heap.size 53 len (fun j => if j < k then .int .u16 (F j) else .int .u16 0)) := ⟨hbel, hrow⟩
        clear hbel hrow
        go_wp2
        go_roundg (len - (k + 1))
        case rel =>
          go_light
          refine ⟨k + 1, by omega, rfl, by go_num, ?_, ?_⟩
          · exact A.out.1.setCell (Nat.le_refl _) _
          · exact row_step (f := fun i => .int .u16 (F i)) A.out.2
        case measure => go_light; omega
      · obtain rfl : k = len := by omega
        go_wp2
        go_ret
        obtain ⟨C, hC, hs, hcc⟩ := hrow
        refine ⟨_, rfl, .inr ⟨w.heap.size, by rw [List.length_map, ← HL.out]; rfl, Nat.le_refl _, ?_⟩, hbel⟩
        rw [hC]
        congr 2
        apply Array.ext_getElem?
        intro i
        by_cases hi : i < k
        · rw [hcc i hi]
          simp only [if_pos hi, HF.out]
          have : i < zs.length := by rw [← HL.out]; exact hi
          simp [List.getElem?_eq_getElem this, List.getD_eq_getElem?_getD]
        · rw [Array.getElem?_eq_none (by omega), Array.getElem?_eq_none (by simp [← HL.out]; omega)]
end Go.Proofs.Qxb6603969a
