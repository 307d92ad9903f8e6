import Derived.Test.Qxb6602963aG7
namespace Go.Proofs.Qxb6602963a
open Go.RowKit
set_option linter.unusedVariables false

/-- how many operations are still to come -/
def rest (listed : Array Bool) : Nat := (List.range listed.size).countP fun i => !listed.getD i true

theorem rest_set {listed : Array Bool} {i : Nat} (hi : i < listed.size) (h : listed.getD i true = false) : rest (listed.setIfInBounds i true) + 1 = rest listed := by
  unfold rest
  rw [Array.size_setIfInBounds]
  have key : ∀ n, (List.range n).countP (fun j => !(listed.setIfInBounds i true).getD j true) + (if i < n then 1 else 0) = (List.range n).countP (fun j => !listed.getD j true) := by
    intro n
    induction n with
    | zero => simp
    | succ n ih =>
      rw [List.range_succ, List.countP_append, List.countP_append, List.countP_singleton, List.countP_singleton]
      by_cases e : n = i
      · subst e
        have e1 : (listed.setIfInBounds n true).getD n true = true := by simp [Array.getD_eq_getD_getElem?, hi]
        rw [if_neg (show ¬ n < n by omega)] at ih
        rw [e1, h, if_neg (show ¬ ((!true) = true) by decide), if_pos (show (!false) = true by decide), if_pos (show n < n + 1 by omega)]
        omega
      · have e1 : (listed.setIfInBounds i true).getD n true = listed.getD n true := by simp [Array.getD_eq_getD_getElem?, Ne.symm e]
        rw [e1]
        by_cases c : i < n
        · rw [if_pos c] at ih; rw [if_pos (show i < n + 1 by omega)]; omega
        · rw [if_neg c] at ih; rw [if_neg (show ¬ i < n + 1 by omega)]; omega
  have := key listed.size
  rw [if_pos hi] at this
  exact this

theorem ready_unlisted {md : Region.Mode} {ops : Array Oper} {listed : Array Bool} {i : Nat} (h : i ∈ Region.ready md ops listed) : i < ops.size ∧ listed.getD i true = false := by
  unfold Region.ready at h
  rw [List.mem_filter] at h
  refine ⟨by simpa using h.1, ?_⟩
  have := h.2
  simp only [Bool.and_eq_true, Bool.not_eq_true'] at this
  exact this.1

/-- a region in whatever order, by what each operation keeps -/
theorem wpAny_inv {P : Program} {md : Region.Mode} {ops : Array Oper} {Q : Exit → Act → World → Prop} (J : Array Bool → Act → World → Prop)
    (hsz : ∀ listed a w, J listed a w → listed.size = ops.size)
    (hstep : ∀ listed a w i, J listed a w → i ∈ Region.ready md ops listed → wpOp P ops Q i (fun a' w' => J (listed.setIfInBounds i true) a' w') a w)
    (hfin : ∀ listed a w, J listed a w → Region.ready md ops listed = [] → Q .normal a w) :
    ∀ fuel listed a w, rest listed ≤ fuel → J listed a w → wpAny P md ops Q fuel listed a w := by
  intro fuel
  induction fuel with
  | zero =>
    intro listed a w hr hJ
    have hnil : Region.ready md ops listed = [] := by
      cases hq : Region.ready md ops listed with
      | nil => rfl
      | cons i r =>
        exfalso
        obtain ⟨h1, h2⟩ := ready_unlisted (show i ∈ Region.ready md ops listed by rw [hq]; exact List.mem_cons_self)
        have := rest_set (listed := listed) (i := i) (by rw [hsz _ _ _ hJ]; exact h1) h2
        omega
    exact ⟨hnil, hfin _ _ _ hJ hnil⟩
  | succ fuel ih =>
    intro listed a w hr hJ
    refine ⟨fun hnil => hfin _ _ _ hJ hnil, fun i hi => ?_⟩
    obtain ⟨h1, h2⟩ := ready_unlisted hi
    have h3 := rest_set (listed := listed) (i := i) (by rw [hsz _ _ _ hJ]; exact h1) h2
    exact wpOp_mono (fun a' w' hJ' => ih _ a' w' (by omega) hJ') (hstep listed a w i hJ hi)
theorem ex_move {o : Oper} {a : Act} {w : World} {K : Act → World → Prop} {Q : Exit → Act → World → Prop} {t : Tmp} (ho : o.op = .move (.tmp t)) (h : K (a.put o.dst (a.tmps.getD t undef)) w) : o.wp Try.prog a w K Q := by
  unfold Oper.wp
  simp [execOp, ho, Oper.upon]
  exact h
theorem ex_assign {o : Oper} {a : Act} {w : World} {K : Act → World → Prop} {Q : Exit → Act → World → Prop} {t : Tmp} (ho : o.op = .assign (.tmp t)) (h : K (a.put o.dst (a.tmps.getD t undef)) w) : o.wp Try.prog a w K Q := by
  unfold Oper.wp
  simp [execOp, ho, Oper.upon]
  exact h
theorem ex_make {o : Oper} {a : Act} {w : World} {K : Act → World → Prop} {Q : Exit → Act → World → Prop} {t : Tmp} {m : Nat} (hm : m ≤ 4096) (ho : o.op = .makeSlice 22 (.tmp t) (.tmp t)) (ht : a.tmps.getD t undef = .int .i64 (m : Int))
    (h : K (a.put o.dst (.slice (some ⟨w.heap.size, 0, none⟩) m m)) (w.alloc (.cells (madeCells #[.int .i32 0] m) 21))) : o.wp Try.prog a w K Q := by
  have m1 := run_make_row' (P := Try.prog) 22 21 (.int .i32 0) _ Try.underlying22 Try.info21 rfl .i64 .i64 m (by omega) (by omega) w
  have ht' : a.eval (.tmp t) = .int .i64 (m : Int) := ht
  unfold Oper.wp
  simp [execOp, ho, ht', m1, Oper.upon]
  exact h
theorem ex_alloc {o : Oper} {a : Act} {w : World} {K : Act → World → Prop} {Q : Exit → Act → World → Prop} (ho : o.op = .alloc 22)
    (h : K (a.put o.dst (.pointer (some ⟨w.heap.size, 0, none⟩))) (w.alloc (.cells #[.slice none 0 0] 22))) : o.wp Try.prog a w K Q := by
  have z : (Instr.alloc 22 true (.tuple #[])).run Try.prog w = .ok (.pointer (some ⟨w.heap.size, 0, none⟩)) (w.alloc (.cells #[.slice none 0 0] 22)) := by kernel_rfl
  unfold Oper.wp
  simp [execOp, ho, z, Oper.upon]
  exact h
theorem ex_store {o : Oper} {a : Act} {w : World} {K : Act → World → Prop} {Q : Exit → Act → World → Prop} {t u : Tmp} {c : Nat} {x : Option Addr} {n k : Nat} {old : Value} (ho : o.op = .store 22 (.tmp t) (.tmp u)) (hd : o.dst = none) (ht : a.tmps.getD t undef = .pointer (some ⟨c, 0, none⟩)) (hu : a.tmps.getD u undef = .slice x n k)
    (hc : w.heap[c]? = some (.cells #[old] 22 (0, 0))) (h : K a (w.setCell ⟨c, 0, none⟩ (.slice x n k))) : o.wp Try.prog a w K Q := by
  have ht' : a.eval (.tmp t) = .pointer (some ⟨c, 0, none⟩) := ht
  have hu' : a.eval (.tmp u) = .slice x n k := hu
  have g1 := cell_of_one hc
  have g2 := frozen_of_one hc
  unfold Oper.wp
  simp [execOp, ho, ht', hu', Oper.upon]
  go_simp
  exact h

theorem ready_dep {md : Region.Mode} {ops : Array Oper} {listed : Array Bool} {i : Nat} {o : Oper} (h : i ∈ Region.ready md ops listed) (ho : ops[i]? = some o) {j : Nat} (he : ∃ e ∈ o.after.toList, e.on = j ∧ Region.binds md e = true) : listed.getD j false = true := by
  unfold Region.ready at h
  rw [List.mem_filter] at h
  have h2 := h.2
  rw [ho] at h2
  simp only [Option.map_some, Option.getD_some, Bool.and_eq_true] at h2
  obtain ⟨e, he1, rfl, he2⟩ := he
  have h3 := h2.2
  rw [← Array.all_toList, List.all_eq_true] at h3
  have := h3 e he1
  rw [he2] at this
  simpa using this

/-! ### the region that lays semi, label, ancestor and idom -/
def op69 (i : Nat) : Op :=
  if i < 8 then (if i % 2 = 0 then .move (.tmp 14) else .makeSlice 22 (.tmp (148 + i)) (.tmp (148 + i))) else if i < 11 then .alloc 22 else if i < 14 then .store 22 (.tmp (4 + i)) (.tmp (128 + 2 * i)) else .assign (.tmp 156)
def dst69 (i : Nat) : Option Tmp := if i < 8 then some (149 + i) else if i < 11 then some (7 + i) else if i < 14 then none else some 18
def dep69 (i : Nat) : List Nat := if i < 8 then (if i % 2 = 0 then [] else [i - 1]) else if i < 11 then [] else if i < 14 then [i - 3, 2 * i - 21] else [7]

def isAl (i : Nat) : Prop := (i < 8 ∧ i % 2 = 1) ∨ (8 ≤ i ∧ i < 11)
def isDst (t : Nat) : Prop := (149 ≤ t ∧ t < 157) ∨ (15 ≤ t ∧ t < 19)

structure J69 (H m : Nat) (w0 : World) (T0 : Array Value) (d0 : List Deferred) (f : Nat → Nat) (listed : Array Bool) (a : Act) (w : World) : Prop where
  size : listed.size = 15
  tsz : a.tmps.size = 329
  df : a.defers = d0
  keep : ∀ t, ¬ isDst t → a.tmps.getD t undef = T0.getD t undef
  mv : ∀ i, i < 8 → i % 2 = 0 → listed.getD i false = true → a.tmps.getD (149 + i) undef = .int .i64 (m : Int)
  mke : ∀ i, i < 8 → i % 2 = 1 → listed.getD i false = true → a.tmps.getD (149 + i) undef = .slice (some ⟨f i, 0, none⟩) m m ∧ w.heap[f i]? = some (.cells (madeCells #[.int .i32 0] m) 21 (0, 0))
  al : ∀ i, 8 ≤ i → i < 11 → listed.getD i false = true → a.tmps.getD (7 + i) undef = .pointer (some ⟨f i, 0, none⟩) ∧ w.heap[f i]? = some (.cells #[if listed.getD (i + 3) false = true then .slice (some ⟨f (2 * i - 15), 0, none⟩) m m else .slice none 0 0] 22 (0, 0))
  asg : listed.getD 14 false = true → a.tmps.getD 18 undef = .slice (some ⟨f 7, 0, none⟩) m m
  dp : ∀ i, 11 ≤ i → i < 14 → listed.getD i false = true → listed.getD (2 * i - 21) false = true ∧ listed.getD (i - 3) false = true
  dp7 : listed.getD 14 false = true → listed.getD 7 false = true
  rng : ∀ i, isAl i → listed.getD i false = true → H ≤ f i ∧ f i < w.heap.size
  inj : ∀ i j, isAl i → isAl j → i ≠ j → listed.getD i false = true → listed.getD j false = true → f i ≠ f j
  bel : Below H w0 w
  hH : H ≤ w.heap.size

theorem getD_set {α : Type} {l : Array α} {i j : Nat} {v d : α} (hi : i < l.size) : (l.setIfInBounds i v).getD j d = if j = i then v else l.getD j d := by
  by_cases e : j = i
  · subst e; simp [Array.getD_eq_getD_getElem?, hi]
  · simp [Array.getD_eq_getD_getElem?, Ne.symm e, e]

theorem getD_put {a : Act} {d : Nat} {v : Value} {t : Nat} (hd : d < a.tmps.size) : (a.put (some d) v).tmps.getD t undef = if t = d then v else a.tmps.getD t undef := getD_set hd

section
variable {H m : Nat} {w0 : World} {T0 : Array Value} {d0 : List Deferred} {f : Nat → Nat} {listed : Array Bool} {a : Act} {w : World}

/-- a value is laid into a slot: what is said of memory stays -/
theorem J69.laid (h : J69 H m w0 T0 d0 f listed a w) {i : Nat} (hi : i < 15) (hl : listed.getD i false = false) (f' : Nat → Nat) (hf : ∀ j, j ≠ i → f' j = f j) {w' : World} (hb : Below w.heap.size w w') (v : Value) (d : Nat) (hd : d = if i < 8 then 149 + i else if i < 11 then 7 + i else 18) (h11 : ¬ (11 ≤ i ∧ i < 14))
    (hmv : i < 8 → i % 2 = 0 → v = .int .i64 (m : Int)) (hmk : i < 8 → i % 2 = 1 → v = .slice (some ⟨f' i, 0, none⟩) m m ∧ w'.heap[f' i]? = some (.cells (madeCells #[.int .i32 0] m) 21 (0, 0)))
    (hal : 8 ≤ i → i < 11 → v = .pointer (some ⟨f' i, 0, none⟩) ∧ w'.heap[f' i]? = some (.cells #[.slice none 0 0] 22 (0, 0))) (has : i = 14 → v = .slice (some ⟨f' 7, 0, none⟩) m m ∧ listed.getD 7 false = true)
    (hfr : isAl i → w.heap.size ≤ f' i ∧ f' i < w'.heap.size) : J69 H m w0 T0 d0 f' (listed.setIfInBounds i true) (a.put (some d) v) w' := by
  have hs := h.size
  have hL : ∀ j, (listed.setIfInBounds i true).getD j false = if j = i then true else listed.getD j false := fun j => getD_set (by omega)
  have hdl : d < a.tmps.size := by rw [h.tsz, hd]; split <;> (try split) <;> omega
  have hT : ∀ t, (a.put (some d) v).tmps.getD t undef = if t = d then v else a.tmps.getD t undef := fun t => getD_put hdl
  have hblk : ∀ x, x < w.heap.size → w'.heap[x]? = w.heap[x]? := hb.block
  refine ⟨by simp [hs], by simp [Act.put, h.tsz], h.df, fun t ht => ?_, fun j h1 h2 h3 => ?_, fun j h1 h2 h3 => ?_, fun j h1 h2 h3 => ?_, fun h3 => ?_, fun j h1 h2 h3 => ?_, fun h3 => ?_, fun j h1 h3 => ?_, fun j k h1 h2 hne h3 h4 => ?_, h.bel.trans (hb.mono h.hH), Nat.le_trans h.hH hb.size⟩
  · rw [hT, if_neg (fun e => ht (by rw [e, hd]; unfold isDst; split <;> (try split) <;> omega))]
    exact h.keep t ht
  · rw [hL] at h3
    by_cases e : j = i
    · subst e
      rw [hT, if_pos (by rw [hd, if_pos h1])]
      exact hmv h1 h2
    · rw [if_neg e] at h3
      rw [hT, if_neg (by rw [hd]; split <;> (try split) <;> omega)]
      exact h.mv j h1 h2 h3
  · rw [hL] at h3
    by_cases e : j = i
    · subst e
      rw [hT, if_pos (by rw [hd, if_pos h1])]
      exact hmk h1 h2
    · rw [if_neg e] at h3
      rw [hT, if_neg (by rw [hd]; split <;> (try split) <;> omega), hf j e]
      obtain ⟨q1, q2⟩ := h.mke j h1 h2 h3
      exact ⟨q1, (hblk _ (h.rng j (.inl ⟨h1, h2⟩) h3).2).trans q2⟩
  · rw [hL] at h3
    have h14 : (listed.setIfInBounds i true).getD (j + 3) false = listed.getD (j + 3) false := by rw [hL, if_neg (by omega)]
    rw [h14]
    by_cases e : j = i
    · subst e
      rw [hT, if_pos (by rw [hd, if_neg (by omega), if_pos h2])]
      obtain ⟨q1, q2⟩ := hal h1 h2
      refine ⟨q1, ?_⟩
      have hn : ¬ listed.getD (j + 3) false = true := fun c => by
        have := (h.dp (j + 3) (by omega) (by omega) c).2
        rw [show j + 3 - 3 = j by omega, hl] at this
        cases this
      rw [if_neg hn]
      exact q2
    · rw [if_neg e] at h3
      rw [hT, if_neg (by rw [hd]; split <;> (try split) <;> omega), hf j e]
      obtain ⟨q1, q2⟩ := h.al j h1 h2 h3
      refine ⟨q1, ?_⟩
      rw [hblk _ (h.rng j (.inr ⟨h1, h2⟩) h3).2, q2]
      by_cases c : listed.getD (j + 3) false = true
      · rw [if_pos c, if_pos c]
        have hd1 := (h.dp (j + 3) (by omega) (by omega) c).1
        have hne : 2 * j - 15 ≠ i := by
          intro e2
          rw [show 2 * (j + 3) - 21 = 2 * j - 15 by omega, e2, hl] at hd1
          cases hd1
        rw [hf _ hne]
      · rw [if_neg c, if_neg c]
  · rw [hL] at h3
    by_cases e : (14 : Nat) = i
    · subst e
      rw [hT, if_pos (by rw [hd]; rfl)]
      exact (has rfl).1
    · rw [if_neg e] at h3
      rw [hT, if_neg (by rw [hd]; split <;> (try split) <;> omega)]
      have h7 := h.dp7 h3
      rw [hf 7 (fun e2 => by rw [e2, hl] at h7; cases h7)]
      exact h.asg h3
  · rw [hL, if_neg (by omega)] at h3
    obtain ⟨q1, q2⟩ := h.dp j h1 h2 h3
    rw [hL, hL]
    refine ⟨?_, ?_⟩
    · split
      · rfl
      · exact q1
    · split
      · rfl
      · exact q2
  · rw [hL]
    split
    · rfl
    · rw [hL] at h3
      by_cases e : (14 : Nat) = i
      · exact (has e.symm).2
      · rw [if_neg e] at h3; exact h.dp7 h3
  · rw [hL] at h3
    by_cases e : j = i
    · subst e
      obtain ⟨q1, q2⟩ := hfr h1
      exact ⟨by have := h.hH; omega, q2⟩
    · rw [if_neg e] at h3
      rw [hf j e]
      obtain ⟨q1, q2⟩ := h.rng j h1 h3
      exact ⟨q1, Nat.lt_of_lt_of_le q2 hb.size⟩
  · rw [hL] at h3 h4
    by_cases e : j = i
    · subst e
      rw [if_neg (Ne.symm hne)] at h4
      rw [hf k (Ne.symm hne)]
      have q1 := (hfr h1).1
      have q2 := (h.rng k h2 h4).2
      omega
    · rw [if_neg e] at h3
      by_cases e2 : k = i
      · subst e2
        rw [hf j e]
        have q1 := (hfr h2).1
        have q2 := (h.rng j h1 h3).2
        omega
      · rw [if_neg e2] at h4
        rw [hf j e, hf k e2]
        exact h.inj j k h1 h2 hne h3 h4

/-- a variable gets its slice -/
theorem J69.stored (h : J69 H m w0 T0 d0 f listed a w) {i : Nat} (h1 : 11 ≤ i) (h2 : i < 14) (hd1 : listed.getD (i - 3) false = true) (hd2 : listed.getD (2 * i - 21) false = true) :
    J69 H m w0 T0 d0 f (listed.setIfInBounds i true) a (w.setCell ⟨f (i - 3), 0, none⟩ (.slice (some ⟨f (2 * i - 21), 0, none⟩) m m)) := by
  have hs := h.size
  have hL : ∀ j, (listed.setIfInBounds i true).getD j false = if j = i then true else listed.getD j false := fun j => getD_set (by omega)
  have hoth : ∀ x, x ≠ f (i - 3) → (w.setCell ⟨f (i - 3), 0, none⟩ (.slice (some ⟨f (2 * i - 21), 0, none⟩) m m)).heap[x]? = w.heap[x]? := fun x hx => Below.heap_setCell _ _ _ _ hx
  have hal3 : isAl (i - 3) := .inr ⟨by omega, by omega⟩
  refine ⟨by simp [hs], h.tsz, h.df, h.keep, fun j q1 q2 q3 => ?_, fun j q1 q2 q3 => ?_, fun j q1 q2 q3 => ?_, fun q3 => ?_, fun j q1 q2 q3 => ?_, fun q3 => ?_, fun j q1 q3 => ?_, fun j k q1 q2 hne q3 q4 => ?_, h.bel.setCell (h.rng (i - 3) hal3 hd1).1 _, by simpa using h.hH⟩
  · rw [hL, if_neg (by omega)] at q3; exact h.mv j q1 q2 q3
  · rw [hL, if_neg (by omega)] at q3
    obtain ⟨e1, e2⟩ := h.mke j q1 q2 q3
    exact ⟨e1, (hoth _ (h.inj j (i - 3) (.inl ⟨q1, q2⟩) hal3 (by omega) q3 hd1)).trans e2⟩
  · rw [hL, if_neg (by omega)] at q3
    obtain ⟨e1, e2⟩ := h.al j q1 q2 q3
    refine ⟨e1, ?_⟩
    rw [hL]
    by_cases e : j + 3 = i
    · subst e
      rw [if_pos rfl, if_pos rfl]
      have e3 : j + 3 - 3 = j := by omega
      rw [e3, show 2 * (j + 3) - 21 = 2 * j - 15 by omega]
      exact (Go.heap_setCell_same _ _ _ _ _ _ e2).trans rfl
    · rw [if_neg e]
      exact (hoth _ (h.inj j (i - 3) (.inr ⟨q1, q2⟩) hal3 (by omega) q3 hd1)).trans e2
  · rw [hL, if_neg (by omega)] at q3; exact h.asg q3
  · rw [hL, hL]
    rw [if_neg (by omega), if_neg (by omega)]
    rw [hL] at q3
    by_cases e : j = i
    · subst e; exact ⟨hd2, hd1⟩
    · rw [if_neg e] at q3; exact h.dp j q1 q2 q3
  · rw [hL, if_neg (by omega)] at q3 ⊢; exact h.dp7 q3
  · rw [hL] at q3
    have : j ≠ i := by rcases q1 with q | q <;> omega
    rw [if_neg this] at q3
    simpa using h.rng j q1 q3
  · have n1 : j ≠ i := by rcases q1 with q | q <;> omega
    have n2 : k ≠ i := by rcases q2 with q | q <;> omega
    rw [hL, if_neg n1] at q3
    rw [hL, if_neg n2] at q4
    exact h.inj j k q1 q2 hne q3 q4
end

set_option maxHeartbeats 1000000 in
theorem reg69 {id : Nat} {ops : Array Oper} {Q : Exit → Act → World → Prop} {a : Act} {w : World} {m : Nat} (hsz : ops.size = 15)
    (hops : ∀ i, i < 15 → ∃ o, ops[i]? = some o ∧ o.guard = none ∧ o.op = op69 i ∧ o.dst = dst69 i ∧ (∀ j ∈ dep69 i, ∃ e ∈ o.after.toList, e.on = j ∧ Region.binds .any e = true) ∧ ∀ e ∈ o.after.toList, e.on < i)
    (ht : a.tmps.size = 329) (h14 : a.tmps.getD 14 undef = .int .i64 (m : Int)) (hm : m ≤ 4096)
    (hQ : ∀ a' w' f listed, (∀ i, i < 15 → listed.getD i false = true) → J69 w.heap.size m w a.tmps a.defers f listed a' w' → Q .normal a' w') : (Code.region id ops true).wp Try.prog Q a w := by
  refine wp_region_any (by kernel_rfl) ?_
  refine wpAny_inv (fun listed a' w' => ∃ f, J69 w.heap.size m w a.tmps a.defers f listed a' w') (fun listed a' w' ⟨f, h⟩ => by rw [h.size, hsz]) ?h2 ?h3 _ _ _ _ ?h4 ?h5
  case h2 =>
    intro listed a' w' i ⟨f, h⟩ hi
    obtain ⟨h1, h2⟩ := ready_unlisted hi
    rw [hsz] at h1
    obtain ⟨o, ho, hg, hop, hdst, hdep, _⟩ := hops i h1
    have hl : listed.getD i false = false := by
      have := h.size
      rw [Array.getD_eq_getD_getElem?] at h2 ⊢
      rw [Array.getElem?_eq_getElem (by omega)] at h2 ⊢
      simpa using h2
    have dep : ∀ j ∈ dep69 i, listed.getD j false = true := fun j hj => ready_dep hi ho (hdep j hj)
    unfold wpOp
    rw [ho]
    simp only
    rw [if_pos (by simp [Region.wanted, hg])]
    refine .inl ?_
    by_cases c8 : i < 8
    · by_cases c2 : i % 2 = 0
      · -- a move
        refine ex_move (t := 14) (by rw [hop]; unfold op69; rw [if_pos c8, if_pos c2]) ?_
        rw [hdst, show dst69 i = some (149 + i) by unfold dst69; rw [if_pos c8]]
        refine ⟨f, h.laid h1 hl f (fun _ _ => rfl) (Below.refl _ _) _ (149 + i) (by rw [if_pos c8]) (by omega) (fun _ _ => ?_) (fun _ q => by omega) (fun q => by omega) (fun q => by omega) (fun q => by rcases q with q | q <;> omega)⟩
        rw [h.keep 14 (by unfold isDst; omega)]
        exact h14
      · -- a make
        have hd0 := dep (i - 1) (by unfold dep69; rw [if_pos c8, if_neg c2]; exact List.mem_cons_self)
        refine ex_make (t := 148 + i) hm (by rw [hop]; unfold op69; rw [if_pos c8, if_neg c2]) (by have := h.mv (i - 1) (by omega) (by omega) hd0; rw [show 149 + (i - 1) = 148 + i by omega] at this; exact this) ?_
        rw [hdst, show dst69 i = some (149 + i) by unfold dst69; rw [if_pos c8]]
        refine ⟨updN f i w'.heap.size, h.laid h1 hl _ (fun j hj => updN_ne _ _ hj) ((Below.refl _ _).alloc (Nat.le_refl _) _) _ (149 + i) (by rw [if_pos c8]) (by omega) (fun _ q => by omega) (fun _ _ => ?_) (fun q => by omega) (fun q => by omega) (fun _ => ?_)⟩
        · rw [updN_same]; exact ⟨rfl, heap_alloc_new _ _⟩
        · rw [updN_same]; exact ⟨Nat.le_refl _, by simp⟩
    · by_cases c11 : i < 11
      · -- an alloc
        refine ex_alloc (by rw [hop]; unfold op69; rw [if_neg c8, if_pos c11]) ?_
        rw [hdst, show dst69 i = some (7 + i) by unfold dst69; rw [if_neg c8, if_pos c11]]
        refine ⟨updN f i w'.heap.size, h.laid h1 hl _ (fun j hj => updN_ne _ _ hj) ((Below.refl _ _).alloc (Nat.le_refl _) _) _ (7 + i) (by rw [if_neg c8, if_pos c11]) (by omega) (fun q => by omega) (fun q => by omega) (fun _ _ => ?_) (fun q => by omega) (fun _ => ?_)⟩
        · rw [updN_same]; exact ⟨rfl, heap_alloc_new _ _⟩
        · rw [updN_same]; exact ⟨Nat.le_refl _, by simp⟩
      · by_cases c14 : i < 14
        · -- a store
          have hd1 := dep (i - 3) (by unfold dep69; rw [if_neg c8, if_neg c11, if_pos c14]; exact List.mem_cons_self)
          have hd2 := dep (2 * i - 21) (by unfold dep69; rw [if_neg c8, if_neg c11, if_pos c14]; exact List.mem_cons_of_mem _ List.mem_cons_self)
          obtain ⟨e1, e2⟩ := h.al (i - 3) (by omega) (by omega) hd1
          obtain ⟨e3, e4⟩ := h.mke (2 * i - 21) (by omega) (by omega) hd2
          refine ex_store (t := 4 + i) (u := 128 + 2 * i) (by rw [hop]; unfold op69; rw [if_neg c8, if_neg c11, if_pos c14]) (by rw [hdst]; unfold dst69; rw [if_neg c8, if_neg c11, if_pos c14]) (by rw [show 4 + i = 7 + (i - 3) by omega]; exact e1) (by rw [show 128 + 2 * i = 149 + (2 * i - 21) by omega]; exact e3) e2 ?_
          exact ⟨f, h.stored (by omega) c14 hd1 hd2⟩
        · obtain rfl : i = 14 := by omega
          have hd7 := dep 7 (by unfold dep69; simp)
          refine ex_assign (t := 156) (by rw [hop]; rfl) ?_
          rw [hdst, show dst69 14 = some 18 from rfl]
          exact ⟨f, h.laid h1 hl f (fun _ _ => rfl) (Below.refl _ _) _ 18 rfl (by omega) (fun q => by omega) (fun q => by omega) (fun _ q => by omega) (fun _ => ⟨(h.mke 7 (by omega) (by omega) hd7).1, hd7⟩) (fun q => by rcases q with q | q <;> omega)⟩
  case h3 =>
    intro listed a' w' ⟨f, h⟩ hnil
    have hall : ∀ i, i < 15 → listed.getD i false = true := by
      intro i
      induction i using Nat.strongRecOn with
      | ind i ih =>
        intro hi
        rcases hq : listed.getD i false with _ | _
        · exfalso
          obtain ⟨o, ho, hg, hop, hdst, hdep, hback⟩ := hops i hi
          have hmem : i ∈ Region.ready .any ops listed := by
            unfold Region.ready
            rw [List.mem_filter]
            refine ⟨by simp [hsz, hi], ?_⟩
            rw [ho]
            have hu : listed.getD i true = false := by
              have := h.size
              rw [Array.getD_eq_getD_getElem?] at hq ⊢
              rw [Array.getElem?_eq_getElem (by omega)] at hq ⊢
              simpa using hq
            rw [hu]
            simp only [Option.map_some, Option.getD_some, Bool.not_false, Bool.true_and]
            rw [← Array.all_toList, List.all_eq_true]
            intro e he
            have := hback e he
            rw [ih e.on this (by omega)]
            simp
          rw [hnil] at hmem
          simp at hmem
        · rfl
    exact hQ a' w' f listed hall h
  case h4 =>
    simp only [rest, hsz]
    decide
  case h5 =>
    refine ⟨fun _ => 0, by simp [hsz], ht, rfl, fun _ _ => rfl, fun i h1 h2 h3 => ?_, fun i h1 h2 h3 => ?_, fun i h1 h2 h3 => ?_, fun h3 => ?_, fun i h1 h2 h3 => ?_, fun h3 => ?_, fun i h1 h3 => ?_, fun i j h1 h2 hne h3 => ?_, ⟨rfl, rfl, rfl, Nat.le_refl _, fun _ _ => rfl⟩, Nat.le_refl _⟩
    all_goals (rw [Array.getD_eq_getD_getElem?] at h3; simp [hsz, Array.getElem?_replicate] at h3)
    all_goals (try (split at h3 <;> simp at h3))
end Go.Proofs.Qxb6602963a
