import Derived.Test.Qxb6603969aZ47
import Derived.Test.Qxb6603969aDm
namespace Go.Proofs.Qxb6603969a
open Go.RowKit
set_option linter.unusedVariables false

theorem Own.mono {base base' : Nat} {w : World} {t : TypeId} {v : Value} {xs : List Value} (h : Own base w t v xs) (hb : base' ≤ base) : Own base' w t v xs := by
  rcases h with h | ⟨g, h1, h2, h3⟩
  · exact .inl h
  · exact .inr ⟨g, h1, by omega, h3⟩

theorem app28' (base bt : Nat) (B : List Value) (v vt : Value) (zs : List Int) (w : World) (hB : Own base w 5 v B) (hbase : base ≤ w.heap.size) (hlB : B.length ≤ 1048576) (ht : Own bt w 53 vt (zs.map (.int .u16))) (hz : ∀ z ∈ zs, 0 ≤ z ∧ z ≤ 65535) (hlz : zs.length ≤ 524288) :
    Calls Try.prog 28 #[v, vt] w fun e w' => BPost28 base B zs w e w' := by
  rcases ht with ⟨rfl, hz0⟩ | ⟨gt, rfl, _, hg⟩
  · obtain rfl : zs = [] := by simpa using hz0
    exact app28_nil base B v w hB hlB
  · rw [List.length_map]
    exact app28 base B v gt zs w hB hbase hlB hg hz hlz

theorem owns_reads {base : Nat} {w : World} {v : Value} {xs : List Value} {n : Nat} (h : w.ownsRow base 5 1 v n xs) (hn : n = xs.length) (F : Nat → Int) (hF : ∀ i, i < xs.length → xs[i]? = some (.int .u8 (F i))) : ∃ a c, v = .slice a n c ∧ n ≤ c ∧ Reads w a n (fun i => .int .u8 (F i)) := by
  subst hn
  rcases h.2 with ⟨rfl, h0⟩ | ⟨g, cap, cur, rfl, hb, hg, hle, hml, hcs, htk⟩
  · exact ⟨none, 0, by rw [h0], by omega, fun h => by omega⟩
  · refine ⟨_, cap, rfl, hle, fun _ => ⟨g, 0, rfl, fun i hi => ?_⟩⟩
    have := h.cells (g := g) rfl i _ (hF i hi)
    have e : (⟨g, 0, none⟩ : Addr).add i = ⟨g, 0 + i, none⟩ := by unfold Addr.add; split <;> simp_all
    rw [← e]
    exact this

def Post7 (w : World) (e : Ending) (w' : World) : Prop := e = .returned (.bool true) ∧ Below w.heap.size w w'

set_option maxRecDepth 100000 in
set_option maxHeartbeats 4000000 in
theorem big7 (a0 : Option Addr) (len0 cap0 : Nat) (a1 : Option Addr) (len1 cap1 : Nat) (w : World) (h0 : len0 ≤ maxLen) (h1 : len1 ≤ maxLen) (hbig : ¬ len0 + 2 * len1 ≤ 1048576) :
    Calls Try.prog 7 #[.slice a0 len0 cap0, .slice a1 len1 cap1] w fun e w' => Post7 w e w' := by
  simp only [maxLen] at h0 h1
  have hz := zz25 a0 a1 len0 cap0 len1 cap1 w
  by_cases hs : len0 + len1 ≤ 1048576
  · rw [decide_eq_true hs] at hz
    have hzz : 1048576 < (len0 : Int) + 2 * (len1 : Int) := by omega
    by_cases h2 : len1 ≤ 524288
    · go_enter Try.func7, Try.ntmps7
      go_wp2_with (go_at_call 25; refine hz.mono ?_; rintro e w1 ⟨rfl, hw⟩; have hw2 := hw.symm; subst hw2; clear hw)
      go_ret
      exact ⟨rfl, Below.refl _ _⟩
    · go_enter Try.func7, Try.ntmps7
      go_wp2_with (go_at_call 25; refine hz.mono ?_; rintro e w1 ⟨rfl, hw⟩; have hw2 := hw.symm; subst hw2; clear hw)
      go_ret
      exact ⟨rfl, Below.refl _ _⟩
  · rw [decide_eq_false hs] at hz
    go_enter Try.func7, Try.ntmps7
    go_wp2_with (go_at_call 25; refine hz.mono ?_; rintro e w1 ⟨rfl, hw⟩; have hw2 := hw.symm; subst hw2; clear hw)
    go_ret
    exact ⟨rfl, Below.refl _ _⟩

theorem Reads.congr {w : World} {a : Option Addr} {n : Nat} {f g : Nat → Value} (h : Reads w a n f) (e : ∀ i, i < n → f i = g i) : Reads w a n g := fun hn => by
  obtain ⟨b, o, h1, h2⟩ := h hn
  exact ⟨b, o, h1, fun i hi => by rw [← e i hi]; exact h2 i hi⟩

theorem slice_tail (ao : Option Addr) (n0 pl co : Nat) (w : World) (f : Nat → Value) (hc : n0 + pl ≤ co) (h : Reads w ao (n0 + pl) f) :
    ∃ aq cq, (∀ w, (Instr.sliceAt 22 (.slice ao (n0 + pl) co) (some (.int .i64 (n0 : Int))) none none).run Try.prog w = .ok (.slice aq pl cq) w) ∧ Reads w aq pl (fun j => f (n0 + j)) := by
  refine ⟨if co = n0 then ao else ao.map (·.add (n0 * 1)), co - n0, fun w => ?_, fun hp => ?_⟩
  · have hu : Try.prog.underlying 22 = some (.slice (Try.prog.elem 22)) := by kernel_rfl
    rw [run_sliceAt_slice _ _ _ _ _ _ hu, run_slice_l (P := Try.prog) w 22 ao (n0 + pl) co hu .i64 (n0 : Int) (by omega) (by omega)]
    have e2 : Try.prog.elem 22 = 5 := by kernel_rfl
    rw [e2, Try.sizeOf5]
    simp [sliced]
  · obtain ⟨b, o, rfl, hcell⟩ := h (by omega)
    refine ⟨b, o + n0, ?_, fun i hi => ?_⟩
    · rw [if_neg (by omega)]
      simp [Addr.add]
    · rw [Nat.add_assoc]; exact hcell _ (by omega)

theorem Reads.lt {w : World} {a : Option Addr} {n : Nat} {f : Nat → Value} (h : Reads w a n f) (hn : 0 < n) : ∀ b o, a = some ⟨b, o, none⟩ → b < w.heap.size := by
  intro b o e
  obtain ⟨b', o', e', hc⟩ := h hn
  rw [e] at e'
  cases e'
  exact World.block_lt_of_cell? _ _ (hc 0 hn)

theorem Reads.only {w wr : World} {a : Option Addr} {n mb : Nat} {f : Nat → Value} (h : Reads w a n f) (k : Only mb w wr) (hne : 0 < n → ∀ b o, a = some ⟨b, o, none⟩ → b ≠ mb) : Reads wr a n f := fun hn => by
  obtain ⟨b, o, e, hc⟩ := h hn
  exact ⟨b, o, e, fun i hi => k.cell (hc i hi) (hne hn b o e)⟩

/-- the decoder's memory: the marks, the bitmap -/
structure DW (w wr : World) (mb : Nat) (M : Nat → Bool) (aq : Option Addr) (pl : Nat) (G : Nat → Nat) : Prop where
  bel : Below w.heap.size w wr
  row : wr.rowIs mb 47 65536 (fun t => .bool (M t))
  rd : Reads wr aq pl (fun j => .int .u8 (G j : Int))

theorem DW.drewN {w wr : World} {mb : Nat} {M : Nat → Bool} {aq : Option Addr} {pl : Nat} {G : Nat → Nat} (h : DW w wr mb M aq pl G) (n : Nat) : DW w (wr.drewN n) mb M aq pl G := ⟨below_drewN h.bel n, h.row, h.rd⟩

set_option maxRecDepth 100000 in
set_option maxHeartbeats 4000000 in
theorem walk7 (a0 : Option Addr) (len0 cap0 : Nat) (Bz : List Int) (a1 : Option Addr) (len1 cap1 : Nat) (zs : List Int) (w : World)
    (hE0 : Elems w a0 (Bz.map (.int .u8))) (hn0 : a0 = none → Bz = []) (hl0 : Bz.length = len0) (hE1 : Elems w a1 (zs.map (.int .u16))) (hn1 : a1 = none → zs = []) (hl1 : zs.length = len1)
    (hz : ∀ z ∈ zs, 0 ≤ z ∧ z ≤ 65535) (hsm : len0 + 2 * len1 ≤ 1048576) :
    Calls Try.prog 7 #[.slice a0 len0 cap0, .slice a1 len1 cap1] w fun e w' => Post7 w e w' := by
  have hzz := zz25 a0 a1 len0 cap0 len1 cap1 w
  rw [decide_eq_true (by omega)] at hzz
  have c10 := clone10 a0 len0 cap0 Bz w hE0 hn0 hl0 (by omega)
  have HE1 : Aside (Elems w a1 (zs.map (.int .u16)) ∧ (a1 = none → zs = [])) := ⟨hE1, hn1⟩
  have hzi : (len0 : Int) + 2 * (len1 : Int) ≤ 1048576 := by omega
  clear hE0 hn0 hE1 hn1
  go_enter Try.func7, Try.ntmps7
  go_wp2_with (go_at_call 25; refine hzz.mono ?_; rintro e w1 ⟨rfl, hw⟩; have hw2 := hw.symm; subst hw2; clear hw)
  refine c10.mono ?_
  rintro e w1 ⟨vb, rfl, hOb, hb1⟩
  have c26 := clone26 a1 len1 cap1 zs w1 (fun j v hj => by
    obtain ⟨x, hx, hc⟩ := HE1.out.1 j v hj
    exact ⟨x, hx, cell_later hb1 hc⟩) HE1.out.2 hl1 (by omega)
  have HB1 : Aside (Own w.heap.size w1 5 vb (Bz.map (.int .u8)) ∧ Below w.heap.size w w1) := ⟨hOb, hb1⟩
  clear hOb hb1 c10 hzz
  go_wp2_with fail
  refine c26.mono ?_
  rintro e w2 ⟨vp, rfl, hOp, hb2⟩
  have HB2 : Aside (Own w.heap.size w2 5 vb (Bz.map (.int .u8)) ∧ Own w.heap.size w2 48 vp (zs.map (.int .u16)) ∧ Below w.heap.size w w2) := ⟨HB1.out.1.below (B := 0) hb2, hOp.mono HB1.out.2.size, HB1.out.2.trans (hb2.mono HB1.out.2.size)⟩
  have c27 := types27 w1.heap.size vp zs w2 hOp (by omega)
  clear hOp hb2 HB1 c26
  go_wp2_with fail
  refine c27.mono ?_
  rintro e w3 ⟨vt, rfl, hOt, hb3⟩
  have HB3 : Aside (Own w.heap.size w3 5 vb (Bz.map (.int .u8)) ∧ Own w.heap.size w3 48 vp (zs.map (.int .u16)) ∧ Below w.heap.size w w3) := ⟨HB2.out.1.below (B := 0) hb3, HB2.out.2.1.below (B := 0) hb3, HB2.out.2.2.trans (hb3.mono HB2.out.2.2.size)⟩
  have c28 := app28' w.heap.size w2.heap.size (Bz.map (.int .u8)) vb vt zs w3 HB3.out.1 HB3.out.2.2.size (by simp; omega) hOt hz (by omega)
  clear hOt hb3 HB2 c27
  go_wp2_with fail
  refine c28.mono ?_
  rintro e w4 ⟨vo, p, rfl, hseg, hpl, hown, hb4⟩
  obtain ⟨F, hF⟩ : ∃ F : Nat → Int, F = fun i => (Bz ++ p.map (fun n : Nat => (n : Int))).getD i 0 := ⟨_, rfl⟩
  have hFx : ∀ i, i < (Bz.map (Value.int .u8) ++ bytesV p).length → (Bz.map (Value.int .u8) ++ bytesV p)[i]? = some (.int .u8 (F i)) := fun i hi => by
    have e : Bz.map (Value.int .u8) ++ bytesV p = (Bz ++ p.map (fun n : Nat => (n : Int))).map (Value.int .u8) := by simp [bytesV]
    rw [e] at hi ⊢
    rw [List.length_map] at hi
    rw [hF]
    simp only [List.getElem?_map, List.getElem?_eq_getElem hi, Option.map_some, List.getD_eq_getElem?_getD, Option.getD_some]
  obtain ⟨ao, co, rfl, hco, hro⟩ := owns_reads hown rfl F hFx
  obtain ⟨ab, rfl, hrb⟩ := HB3.out.1.reads
  obtain ⟨ap, rfl, hrp⟩ := HB3.out.2.1.reads
  obtain ⟨pl, hpl2⟩ : ∃ pl, pl = p.length := ⟨_, rfl⟩
  have eno : (Bz.map (Value.int .u8) ++ bytesV p).length = len0 + pl := by simp [bytesV, hl0, hpl2]
  have hrb' : Reads w4 ab len0 (fun i => .int .u8 (F i)) := by
    rw [List.length_map, hl0] at hrb
    refine (hrb.below hb4).congr fun i hi => ?_
    rw [hF]
    have hi' : i < Bz.length := by omega
    simp [List.getD_eq_getElem?_getD, List.getElem?_append_left hi', List.getElem?_eq_getElem hi']
  obtain ⟨Z, hZ⟩ : ∃ Z : Nat → Int, Z = fun i => zs.getD i 0 := ⟨_, rfl⟩
  have hrp' : Reads w4 ap len1 (fun i => .int .u16 (Z i)) := by
    rw [List.length_map, hl1] at hrp
    refine (hrp.below hb4).congr fun i hi => ?_
    rw [hZ]
    have hi' : i < zs.length := by omega
    simp [List.getD_eq_getElem?_getD, List.getElem?_eq_getElem hi']
  have hFp : ∀ j, j < pl → F (len0 + j) = ((p.getD j 0 : Nat) : Int) := fun j hj => by
    rw [hF]
    have : j < p.length := by omega
    simp [List.getD_eq_getElem?_getD, ← hl0, List.getElem?_append_right, List.getElem?_eq_getElem this]
  have hZm : ∀ t : Nat, ((t : Int) ∈ zs ↔ ∃ i, i < len1 ∧ Z i = (t : Int)) := fun t => by
    rw [hZ]
    constructor
    · intro h
      obtain ⟨k, hk, e⟩ := List.getElem_of_mem h
      exact ⟨k, by omega, by simp [List.getD_eq_getElem?_getD, List.getElem?_eq_getElem hk, e]⟩
    · rintro ⟨k, hk, e⟩
      have hk' : k < zs.length := by omega
      simp [List.getD_eq_getElem?_getD, List.getElem?_eq_getElem hk'] at e
      rw [← e]
      exact List.getElem_mem _
  have hZb : ∀ i, i < len1 → 0 ≤ Z i ∧ Z i ≤ 65535 := fun i hi => by
    rw [hZ]
    have hi' : i < zs.length := by omega
    have := hz _ (List.getElem_mem hi')
    simpa [List.getD_eq_getElem?_getD, List.getElem?_eq_getElem hi'] using this
  rw [eno] at hro hco ⊢
  have hl0' : (Bz.map (Value.int .u8)).length = len0 := by rw [List.length_map]; exact hl0
  have hl1' : (zs.map (Value.int .u16)).length = len1 := by rw [List.length_map]; exact hl1
  rw [hl0', hl1']
  have hpb : pl ≤ 34 * len1 := by omega
  have HS : Aside (Seg (fun t : Nat => (t : Int) ∈ zs) 0 256 p ∧ pl = p.length) := ⟨hseg, hpl2⟩
  have HB4 : Aside (Below w.heap.size w w4) := HB3.out.2.2.trans (hb4.mono HB3.out.2.2.size)
  clear hF hZ hpl2 hseg hpl hown hb4 hFx hrb hrp HB3 c28 eno hl0' hl1' hz hl0 hl1 HE1
  go_wp2_with fail
  refine (pre13 ao ab (len0 + pl) co len0 len0 F w4 hro hrb' (by omega) (by omega)).mono ?_
  rintro e w5 ⟨rfl, hb5⟩
  have HR5 : Aside (Reads w5 ao (len0 + pl) (fun i => .int .u8 (F i)) ∧ Reads w5 ap len1 (fun i => .int .u16 (Z i)) ∧ Below w.heap.size w w5) := ⟨hro.below hb5, hrp'.below hb5, HB4.out.trans (hb5.mono HB4.out.size)⟩
  clear hro hrb' hrp' hb5 HB4
  obtain ⟨cs, hz47, hcs, hcf⟩ := zero47
  have hrow0 : (w5.alloc (.cells cs 47)).rowIs w5.heap.size 47 65536 (fun _ => .bool false) := ⟨cs, heap_alloc_new _ _, hcs, hcf⟩
  have HR6 : Aside ((w5.alloc (.cells cs 47)).rowIs w5.heap.size 47 65536 (fun _ => .bool false) ∧ Reads (w5.alloc (.cells cs 47)) ao (len0 + pl) (fun i => .int .u8 (F i)) ∧ Reads (w5.alloc (.cells cs 47)) ap len1 (fun i => .int .u16 (Z i)) ∧ Below w.heap.size w (w5.alloc (.cells cs 47)) ∧ w.heap.size ≤ w5.heap.size ∧ (0 < len0 + pl → ∀ b o, ao = some ⟨b, o, none⟩ → b ≠ w5.heap.size) ∧ (0 < len1 → ∀ b o, ap = some ⟨b, o, none⟩ → b ≠ w5.heap.size)) :=
    ⟨hrow0, HR5.out.1.below ((Below.refl _ _).alloc (Nat.le_refl _) _), HR5.out.2.1.below ((Below.refl _ _).alloc (Nat.le_refl _) _), HR5.out.2.2.alloc HR5.out.2.2.size _, HR5.out.2.2.size, fun h b o e => by have := HR5.out.1.lt h b o e; omega, fun h b o e => by have := HR5.out.2.1.lt h b o e; omega⟩
  clear hrow0 hcs hcf HR5
  go_wp2_with fail
  clear hz47
  generalize w5.alloc (.cells cs 47) = w6 at HR6 ⊢
  obtain ⟨mb, hmb⟩ : ∃ mb, mb = w5.heap.size := ⟨_, rfl⟩
  rw [← hmb] at HR6 ⊢
  clear hmb
  go_loopg [8] len1 (fun g s8 wr => ∃ (k : Nat) (M : Nat → Bool), k ≤ len1 ∧ g = len1 - k ∧ s8 = .int .i64 k ∧ (∀ t, M t = true ↔ ∃ i, i < k ∧ Z i = ((t : Nat) : Int)) ∧ wr.rowIs mb 47 65536 (fun t => .bool (M t)) ∧ Only mb w6 wr)
  case atStart => exact ⟨0, fun _ => false, Nat.zero_le _, rfl, rfl, fun t => ⟨fun h => by simp at h, fun ⟨i, h, _⟩ => by omega⟩, HR6.out.1, Only.refl _ _⟩
  case round =>
    obtain ⟨k, M, hk, rfl, rfl, hM, hrow, hO⟩ := hrel
    by_cases hlt : k < len1
    · obtain ⟨bp, op, rfl, hcp⟩ := HR6.out.2.2.1 (by omega)
      have hzb := hZb k hlt
      obtain ⟨z, hzk⟩ : ∃ z : Nat, Z k = (z : Int) := ⟨(Z k).toNat, by omega⟩
      have hz16 : z < 65536 := by omega
      have hne : bp ≠ mb := HR6.out.2.2.2.2.2.2 (by omega) bp op rfl
      have g0 : wr.cell? ⟨bp, op + k, none⟩ = some (.int .u16 (z : Int)) := by
        rw [← hzk]
        exact hO.cell (hcp k hlt) hne
      have g1 : wr.cell? ⟨mb, z, none⟩ = some (.bool (M z)) := hrow.cell hz16
      have g2 := hrow.frozen z
      have A : Aside ((∀ t, M t = true ↔ ∃ i, i < k ∧ Z i = ((t : Nat) : Int)) ∧ wr.rowIs mb 47 65536 (fun t => .bool (M t)) ∧ Only mb w6 wr ∧ Z k = (z : Int)) := ⟨hM, hrow, hO, hzk⟩
      clear hM hrow hO hzk hcp hzb
      go_wp2
      go_roundg (len1 - (k + 1))
      case rel =>
        go_light
        refine ⟨k + 1, fun t => if t = z then true else M t, by omega, rfl, by go_num, fun t => ?_, ?_, A.out.2.2.1.setCell (.inl rfl) _⟩
        · show (if t = z then true else M t) = true ↔ _
          constructor
          · intro h
            split at h
            · rename_i e; subst e; exact ⟨k, by omega, A.out.2.2.2⟩
            · obtain ⟨i, h1, h2⟩ := (A.out.1 t).1 h
              exact ⟨i, by omega, h2⟩
          · rintro ⟨i, h1, h2⟩
            split
            · rfl
            · rename_i e
              refine (A.out.1 t).2 ⟨i, ?_, h2⟩
              by_cases c : i = k
              · subst c; have := A.out.2.2.2; omega
              · omega
        · refine (A.out.2.1.set z _).congr fun j _ => ?_
          by_cases e : j = z
          · simp [e]
          · simp [e]
      case measure => go_light; omega
    · obtain rfl : k = len1 := by omega
      have hro7 : Reads wr ao (len0 + pl) (fun i => .int .u8 (F i)) := HR6.out.2.1.only hO HR6.out.2.2.2.2.2.1
      obtain ⟨aq, cq, hslp, hrq⟩ := slice_tail ao len0 pl co wr _ (by omega) hro7
      have hSM : ∀ t : Nat, M t = true ↔ (t : Int) ∈ zs := fun t => (hM t).trans (hZm t).symm
      obtain ⟨G, hG⟩ : ∃ G : Nat → Nat, G = fun j => p.getD j 0 := ⟨_, rfl⟩
      have hD : DW w wr mb M aq pl G := ⟨Only.below HR6.out.2.2.2.1 hO HR6.out.2.2.2.2.1 HR6.out.2.2.2.1.size, hrow, hrq.congr fun j hj => by rw [hFp j hj, hG]⟩
      have HD : Aside (DW w wr mb M aq pl G ∧ (∀ t : Nat, M t = true ↔ (t : Int) ∈ zs) ∧ G = fun j => p.getD j 0) := ⟨hD, hSM, hG⟩
      clear hD hSM hG hro7 hrq hM hrow hO HR6 hFp hZm hZb
      go_wp2
      obtain ⟨wq, rfl⟩ : ∃ wq : World, wq = wr := ⟨_, rfl⟩
      go_loopg [10, 11, 12] pl (fun g s10 s11 s12 wr => ∃ i lo next : Nat, i ≤ pl ∧ g = pl - i ∧ s10 = .int .i64 i ∧ s11 = .int .i64 ((lo : Int) - 1) ∧ s12 = .int .i64 next ∧ Dec (fun t : Nat => (t : Int) ∈ zs) p i lo next ∧ DW w wr mb M aq pl G)
      case atStart => exact ⟨0, 0, 0, Nat.zero_le _, rfl, rfl, rfl, rfl, Dec.start HS.out.1, HD.out.1⟩
      case round =>
        obtain ⟨i, lo, next, hi, rfl, rfl, rfl, rfl, hDec, hDW⟩ := hrel
        have hplen := HS.out.2
        by_cases hlt : i < pl
        · obtain ⟨wn, n, f, hh⟩ := hDec.head (by omega)
          obtain ⟨bq, oq, rfl, hcq⟩ := hDW.rd (by omega)
          have hG := HD.out.2.2
          have hn1 := hh.win.n1
          have hn32 := hh.win.n32
          have hw256 := hh.w256
          have hlow := hh.low
          have hfits : i + 2 + n ≤ pl := by have := hh.fits; omega
          have hG0 : G i = wn := by rw [hG]; exact hh.p0
          have hG1 : G (i + 1) = n := by rw [hG]; exact hh.p1
          obtain ⟨f1, hf1⟩ : ∃ f1, f1 = f (n - 1) := ⟨_, rfl⟩
          have hG2 : G (i + n + 1) = f1 := by
            rw [hG, hf1, ← hh.pj (n - 1) (by omega)]
            show p.getD _ 0 = p.getD _ 0
            congr 1; omega
          have hf1n : ((f1 : Int) == 0) = false := by
            have := hh.win.last
            simp; omega
          have HH : Aside (Head (fun t : Nat => (t : Int) ∈ zs) p i lo next wn n f ∧ DW w wr mb M (some ⟨bq, oq, none⟩) pl G) := ⟨hh, hDW⟩
          clear hDec hDW hh hf1 hplen hG
          go_wp2
          clear hcq hG0 hG1 hG2 hf1n
          obtain ⟨wq2, hwq2⟩ : ∃ wq : World, wq = wr := ⟨_, rfl⟩
          go_loopg [12, 15] n (fun g s12 s15 wr => ∃ j nx : Nat, j ≤ n ∧ g = n - j ∧ s12 = .int .i64 nx ∧ s15 = .int .i64 j ∧ Pos (fun t : Nat => (t : Int) ∈ zs) nx (wn * 256 + j * 8) ∧ DW w wr mb M (some ⟨bq, oq, none⟩) pl G)
          case atStart => exact ⟨0, next, Nat.zero_le _, rfl, rfl, rfl, by simpa using HH.out.1.pos, HH.out.2⟩
          case round =>
            clear hwq2
            obtain ⟨j, nx, hj, rfl, rfl, rfl, hPos, hDW⟩ := hrel
            by_cases hjn : j < n
            · obtain ⟨bq', oq', hbq, hcq⟩ := hDW.rd (by omega)
              obtain ⟨rfl, rfl⟩ : bq = bq' ∧ oq = oq' := by cases hbq; exact ⟨rfl, rfl⟩
              obtain ⟨fj, hfj⟩ : ∃ fj, fj = f j := ⟨_, rfl⟩
              have hGj : G (i + j + 2) = fj := by
                rw [HD.out.2.2, hfj, ← HH.out.1.pj j hjn]
                show p.getD _ 0 = p.getD _ 0
                congr 1; omega
              have HF : Aside (fj = f j) := hfj
              have HP : Aside (Pos (fun t : Nat => (t : Int) ∈ zs) nx (wn * 256 + j * 8) ∧ DW w wr mb M (some ⟨bq, oq, none⟩) pl G) := ⟨hPos, hDW⟩
              clear hPos hDW hfj hbq
              go_wp2
              clear hcq hGj
              obtain ⟨wq3, hwq3⟩ : ∃ wq : World, wq = wr := ⟨_, rfl⟩
              go_loopg [12, 17] 8 (fun g s12 s17 wr => ∃ bit nx : Nat, bit ≤ 8 ∧ g = 8 - bit ∧ s12 = .int .i64 nx ∧ s17 = .int .i64 bit ∧ Pos (fun t : Nat => (t : Int) ∈ zs) nx (wn * 256 + j * 8 + bit) ∧ DW w wr mb M (some ⟨bq, oq, none⟩) pl G)
              case atStart => exact ⟨0, nx, Nat.zero_le _, rfl, rfl, rfl, HP.out.1, HP.out.2⟩
              case round =>
                clear hwq3 HP
                obtain ⟨bit, nx2, hbit, rfl, rfl, rfl, hPos, hDW⟩ := hrel
                by_cases hb8 : bit < 8
                · have hfl : fj < 256 := by rw [HF.out]; exact HH.out.1.win.lt j
                  obtain ⟨X, hX⟩ : ∃ X, X = fj &&& 128 >>> bit := ⟨_, rfl⟩
                  have eX : bits .and .u8 (fj : Int) ((128 : Int) / (2 : Int) ^ bit) = (X : Int) := by rw [shr128 bit hb8, hX]; exact bits8_and _ _ hfl (shr128_lt bit)
                  have hbX : (X != 0) = fj.testBit (7 - bit) := by rw [hX]; exact and_bit _ _ hb8
                  obtain ⟨pos, hpos⟩ : ∃ pos, pos = wn * 256 + j * 8 + bit := ⟨_, rfl⟩
                  have hiff := HH.out.1.win.bits j bit (by omega) hb8
                  rw [← hpos] at hiff hPos
                  rw [← HF.out] at hiff
                  have ePos : (wn : Int) * 256 + (j : Int) * 8 + (bit : Int) = (pos : Int) := by omega
                  have hp16 : pos < 65536 := by omega
                  have HQ : Aside (Pos (fun t : Nat => (t : Int) ∈ zs) nx2 pos ∧ DW w wr mb M (some ⟨bq, oq, none⟩) pl G ∧ pos = wn * 256 + j * 8 + bit) := ⟨hPos, hDW, hpos⟩
                  clear hX hpos
                  by_cases hset : fj.testBit (7 - bit) = true
                  · have hXn : ((X : Int) != 0) = true := by
                      rw [hset] at hbX
                      simp at hbX ⊢
                      omega
                    have hSp : M pos = true := (HD.out.2.1 pos).2 (hiff.2 ⟨hjn, hset⟩)
                    have hnx := hPos.nx
                    clear hPos hDW hiff hbX hset
                    go_wp2
                    obtain ⟨wq4, hwq4⟩ : ∃ wq : World, wq = wr := ⟨_, rfl⟩
                    go_loopg [12] (pos - nx2) (fun g s12 wr => ∃ q : Nat, nx2 ≤ q ∧ q ≤ pos ∧ g = pos - q ∧ s12 = .int .i64 q ∧ DW w wr mb M (some ⟨bq, oq, none⟩) pl G)
                    case atStart => exact ⟨nx2, Nat.le_refl _, hnx, rfl, rfl, HQ.out.2.1⟩
                    case round =>
                      clear hwq4
                      obtain ⟨q, hq1, hq2, rfl, rfl, hDW⟩ := hrel
                      by_cases hqp : q < pos
                      · have hMq : M q = false := by
                          have := HQ.out.1.gap q hq1 hqp
                          cases hm : M q with
                          | false => rfl
                          | true => exact absurd ((HD.out.2.1 q).1 hm) this
                        have g0 : wr.cell? ⟨mb, q, none⟩ = some (.bool false) := by rw [← hMq]; exact hDW.row.cell (by omega)
                        have A : Aside (DW w wr mb M (some ⟨bq, oq, none⟩) pl G) := hDW
                        clear hDW hMq
                        go_wp2
                        go_roundg (pos - (q + 1))
                        case rel => go_light; exact ⟨q + 1, by omega, by omega, rfl, by go_num, A.out⟩
                        case measure => go_light; omega
                      · obtain rfl : q = pos := by omega
                        have g0 : wr.cell? ⟨mb, q, none⟩ = some (.bool true) := by rw [← hSp]; exact hDW.row.cell (by omega)
                        have A : Aside (DW w wr mb M (some ⟨bq, oq, none⟩) pl G) := hDW
                        clear hDW
                        go_wp2
                        go_roundg (8 - (bit + 1))
                        case rel =>
                          go_light
                          refine ⟨bit + 1, q + 1, by omega, rfl, by go_num, by go_num, ?_, A.out⟩
                          have := HQ.out.1.hit
                          have e := HQ.out.2.2
                          rw [show wn * 256 + j * 8 + (bit + 1) = q + 1 by omega]
                          exact this
                        case measure => go_light; omega
                  · have hXn : ((X : Int) != 0) = false := by
                      rw [show fj.testBit (7 - bit) = false by simpa using hset] at hbX
                      simp at hbX ⊢
                      omega
                    have HnS : Aside (¬ ((pos : Int) ∈ zs)) := fun h => hset (hiff.1 h).2
                    clear hPos hDW hiff hbX hset
                    go_wp2
                    go_roundg (8 - (bit + 1))
                    case rel =>
                      go_light
                      refine ⟨bit + 1, nx2, by omega, rfl, rfl, by go_num, ?_, HQ.out.2.1⟩
                      have := HQ.out.1.miss HnS.out
                      rw [HQ.out.2.2] at this
                      exact this
                    case measure => go_light; omega
                · obtain rfl : bit = 8 := by omega
                  have HP2 : Aside (Pos (fun t : Nat => (t : Int) ∈ zs) nx2 (wn * 256 + j * 8 + 8) ∧ DW w wr mb M (some ⟨bq, oq, none⟩) pl G) := ⟨hPos, hDW⟩
                  clear hPos hDW
                  go_wp2
                  go_roundg (n - (j + 1))
                  case rel =>
                    go_light
                    refine ⟨j + 1, nx2, by omega, rfl, rfl, by go_num, ?_, HP2.out.2⟩
                    have := HP2.out.1
                    rw [show wn * 256 + (j + 1) * 8 = wn * 256 + j * 8 + 8 by omega]
                    exact this
                  case measure => go_light; omega
            · obtain rfl : j = n := by omega
              have HP : Aside (Pos (fun t : Nat => (t : Int) ∈ zs) nx (wn * 256 + j * 8) ∧ DW w wr mb M (some ⟨bq, oq, none⟩) pl G) := ⟨hPos, hDW⟩
              clear hPos hDW
              go_wp2
              go_roundg (pl - (i + 2 + j))
              case rel =>
                go_light
                exact ⟨i + 2 + j, wn + 1, nx, hfits, rfl, by first | rfl | (congr 1; omega), by first | rfl | (congr 1; omega), rfl, HH.out.1.close HP.out.1, HP.out.2⟩
              case measure => go_light; omega
        · obtain rfl : i = pl := by omega
          have hnx : next ≤ 65536 := by have h1 := hDec.nx; have h2 := hDec.lo256; omega
          have hD2 : Dec (fun t : Nat => (t : Int) ∈ zs) p p.length lo next := by rw [← hplen]; exact hDec
          have HE : Aside ((∀ t : Nat, next ≤ t → t < 65536 → ¬ ((t : Int) ∈ zs)) ∧ DW w wr mb M aq i G) := ⟨hD2.done, hDW⟩
          clear hDec hDW hD2
          go_wp2
          obtain ⟨wq5, hwq5⟩ : ∃ wq : World, wq = wr := ⟨_, rfl⟩
          obtain ⟨K, hK⟩ : ∃ K : Nat, K = 65536 := ⟨_, rfl⟩
          have HK : Aside (K = 65536 ∧ next ≤ 65536) := ⟨hK, hnx⟩
          clear hK hnx
          go_loopg [12] (K - next) (fun g s12 wr => ∃ q : Nat, next ≤ q ∧ q ≤ K ∧ g = K - q ∧ s12 = .int .i64 q ∧ DW w wr mb M aq i G)
          case atStart => exact ⟨next, Nat.le_refl _, by rw [HK.out.1]; exact HK.out.2, rfl, rfl, HE.out.2⟩
          case round =>
            clear hwq5
            obtain ⟨q, hq1, hq2, rfl, rfl, hDW⟩ := hrel
            by_cases hqp : q < K
            · have hqn : q < 65536 := by have := HK.out.1; omega
              have hqz : decide ((q : Int) < 65536) = true := decide_eq_true (by omega)
              have hMq : M q = false := by
                have := HE.out.1 q hq1 hqn
                cases hm : M q with
                | false => rfl
                | true => exact absurd ((HD.out.2.1 q).1 hm) this
              have g0 : wr.cell? ⟨mb, q, none⟩ = some (.bool false) := by rw [← hMq]; exact hDW.row.cell hqn
              have A : Aside (DW w wr mb M aq i G) := hDW
              clear hDW hMq
              go_wp2
              go_roundg (K - (q + 1))
              case rel => go_light; exact ⟨q + 1, by omega, by omega, rfl, by go_num, A.out⟩
              case measure => go_light; omega
            · have hqz : decide ((q : Int) < 65536) = false := decide_eq_false (by have := HK.out.1; omega)
              have A : Aside (DW w wr mb M aq i G) := hDW
              clear hDW
              go_wp2
              go_ret
              exact ⟨rfl, A.out.bel⟩
end Go.Proofs.Qxb6603969a
