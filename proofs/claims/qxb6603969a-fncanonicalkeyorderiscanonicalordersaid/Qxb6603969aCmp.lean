import Derived.Test.Qxb6603969aOffs
import Derived.Deep.RegionWith
namespace Go.Proofs.Qxb6603969a
open Go.RowKit
set_option linter.unusedVariables false

/-- f 0, .., f (n-1) -/
def fl (f : Nat → Nat) (n : Nat) : List Nat := (List.range n).map f

theorem fl_len (f : Nat → Nat) (n : Nat) : (fl f n).length = n := by simp [fl]
theorem fl_drop (f : Nat → Nat) (n i : Nat) (h : i < n) : (fl f n).drop i = f i :: (fl f n).drop (i + 1) := by
  rw [List.drop_eq_getElem_cons (by simp [fl]; exact h)]
  simp [fl]
theorem fl_end (f : Nat → Nat) (n i : Nat) (h : n ≤ i) : (fl f n).drop i = [] := by
  rw [List.drop_eq_nil_iff]; simp [fl]; exact h

theorem cmp_lt {a b : List Nat} {x y : Nat} (h : x < y) : cmpL (x :: a) (y :: b) = -1 := by simp only [cmpL]; rw [if_pos h]
theorem cmp_gt {a b : List Nat} {x y : Nat} (h : y < x) : cmpL (x :: a) (y :: b) = 1 := by simp only [cmpL]; rw [if_neg (by omega), if_pos h]
theorem cmp_eq {a b : List Nat} {x : Nat} : cmpL (x :: a) (x :: b) = cmpL a b := by simp [cmpL]

/-- A slice value's address 'a' leads, in 'w', to n cells holding f 0, f 1, ... (nothing is said where n is 0). -/
def Reads (w : World) (a : Option Addr) (n : Nat) (f : Nat → Value) : Prop :=
  0 < n → ∃ b off, a = some ⟨b, off, none⟩ ∧ ∀ i, i < n → w.cell? ⟨b, off + i, none⟩ = some (f i)

theorem Reads.below {w w' : World} {a : Option Addr} {n : Nat} {f : Nat → Value} (h : Reads w a n f) (hb : Below w.heap.size w w') : Reads w' a n f := by
  intro hn
  obtain ⟨b, off, ha, hc⟩ := h hn
  exact ⟨b, off, ha, fun i hi => cell_later hb (hc i hi)⟩

/-- what is owned can be read -/
theorem own_reads {w : World} {B e n : Nat} {v : Value} {xs : List Value} (h : w.ownsRow B e 1 v n xs) : ∃ a c, v = .slice a n c ∧ n ≤ maxLen ∧ Reads w a n (fun i => xs.getD i undef) := by
  obtain ⟨h1, h2⟩ := h
  rcases h2 with ⟨rfl, rfl⟩ | ⟨g, cap, cur, rfl, hb, hh, hn, hm, hc, ht⟩
  · exact ⟨none, 0, rfl, by simp [maxLen], fun h => absurd h (by omega)⟩
  · refine ⟨some ⟨g, 0, none⟩, cap, rfl, by omega, fun _ => ⟨g, 0, rfl, fun i hi => ?_⟩⟩
    have h3 : i < xs.length := by omega
    have h4 : cur[i]? = some (xs.getD i undef) := by
      rw [Nat.mul_one] at ht
      have : (cur.toList.take n)[i]? = cur.toList[i]? := by rw [List.getElem?_take, if_pos hi]
      rw [ht] at this
      rw [← Array.getElem?_toList, ← this]
      simp [List.getD, List.getElem?_eq_getElem h3]
    simp [World.cell?, hh, h4]

theorem own_ge {w : World} {B e n : Nat} {v : Value} {xs : List Value} (h : w.ownsRow B e 1 v n xs) : ∀ k, v.ownBlock = some k → B ≤ k := by
  intro k hk
  rcases h.2 with ⟨rfl, _⟩ | ⟨g, cap, cur, rfl, hb, _⟩
  · simp [Value.ownBlock] at hk
  · simp [Value.ownBlock] at hk; omega

theorem ret_int {k : IntKind} {a b : Int} (h : a = b) : Ending.returned (.int k a) = .returned (.int k b) := by rw [h]

theorem draws2 (w : World) (a b : Nat) : ∃ m, (w.drewN a).drewN b = w.drewN m := ⟨a + b, World.drewN_drewN _ _ _⟩
theorem draws3 (w : World) (a b c : Nat) : ∃ m, ((w.drewN a).drewN b).drewN c = w.drewN m := ⟨a + (b + c), by rw [World.drewN_drewN, World.drewN_drewN]⟩

def CmpPost (r : Int) (w : World) (e : Ending) (w' : World) : Prop := e = .returned (.int .i64 r) ∧ ∃ d, w' = w.drewN d

set_option maxHeartbeats 1000000 in
theorem cmp23 (a1 a2 : Option Addr) (n1 n2 c1 c2 : Nat) (f1 f2 : Nat → Nat) (w : World) (h1 : n1 ≤ maxLen) (h2 : n2 ≤ maxLen) (r1 : Reads w a1 n1 (fun i => .int .u8 (f1 i : Int))) (r2 : Reads w a2 n2 (fun i => .int .u8 (f2 i : Int))) :
    Calls Try.prog 23 #[.slice a1 n1 c1, .slice a2 n2 c2] w fun e w' => CmpPost (cmpL (fl f1 n1) (fl f2 n2)) w e w' := by
  unfold maxLen at h1 h2
  go_enter Try.func23, Try.ntmps23
  go_upto_if 12 with (fail)
  go_cut [5] (fun v wc => v = .int .i64 (min n1 n2 : Nat) ∧ wc = w)
  case first =>
    by_cases hq : n2 < n1
    · go_wp2
      go_meet
      case rel => exact ⟨by rw [Nat.min_eq_right (by omega)], rfl⟩
    · go_wp2
      go_meet
      case rel => exact ⟨by rw [Nat.min_eq_left (by omega)], rfl⟩
  case rest =>
    obtain ⟨rfl, hw⟩ := hcut
    subst hw
    obtain ⟨mn, hmn⟩ : ∃ mn, min n1 n2 = mn := ⟨_, rfl⟩
    rw [hmn]
    have hm1 : mn ≤ n1 := by omega
    have hm2 : mn ≤ n2 := by omega
    have HM : Aside (mn = n1 ∨ mn = n2) := by show mn = n1 ∨ mn = n2; omega
    clear hmn
    go_wp2
    go_loopg [6] mn (fun g v wr => ∃ i d : Nat, i ≤ mn ∧ g = mn - i ∧ v = .int .i64 i ∧ wr = wc.drewN d ∧ cmpL (fl f1 n1) (fl f2 n2) = cmpL ((fl f1 n1).drop i) ((fl f2 n2).drop i))
    case atStart => exact ⟨0, 0, Nat.zero_le _, rfl, rfl, rfl, rfl⟩
    case round =>
      obtain ⟨i, d, hi, rfl, rfl, hw, he⟩ := hrel
      subst hw
      have HE : Aside (cmpL (fl f1 n1) (fl f2 n2) = cmpL ((fl f1 n1).drop i) ((fl f2 n2).drop i)) := he
      clear he
      by_cases hlt : i < mn
      · obtain ⟨b1, o1, rfl, G1⟩ := r1 (by omega)
        obtain ⟨b2, o2, rfl, G2⟩ := r2 (by omega)
        have g1 : wc.cell? ⟨b1, o1 + i, none⟩ = some (.int .u8 (f1 i : Int)) := G1 i (by omega)
        have g2 : wc.cell? ⟨b2, o2 + i, none⟩ = some (.int .u8 (f2 i : Int)) := G2 i (by omega)
        have z1 : (i : Int) < (n1 : Int) := by omega
        have z2 : (i : Int) < (n2 : Int) := by omega
        have z0 : (0 : Int) ≤ (i : Int) := by omega
        have E1 : Aside ((fl f1 n1).drop i = f1 i :: (fl f1 n1).drop (i + 1) ∧ (fl f2 n2).drop i = f2 i :: (fl f2 n2).drop (i + 1)) := ⟨fl_drop f1 n1 i (by omega), fl_drop f2 n2 i (by omega)⟩
        generalize f1 i = x at *
        generalize f2 i = y at *
        clear G1 G2 r1 r2
        by_cases hxy : x < y
        · have q1 : (x : Int) < (y : Int) := by omega
          go_wp2
          go_quiet (fail)
          go_wp2
          go_ret
          exact ⟨ret_int (by rw [HE.out, E1.out.1, E1.out.2, cmp_lt hxy]), draws2 _ _ _⟩
        · by_cases hyx : y < x
          · have q1 : (y : Int) < (x : Int) := by omega
            go_wp2
            go_quiet (fail)
            go_wp2
            go_quiet (fail)
            go_wp2
            go_ret
            exact ⟨ret_int (by rw [HE.out, E1.out.1, E1.out.2, cmp_gt hyx]), draws3 _ _ _ _⟩
          · obtain rfl : x = y := by omega
            clear hxy hyx
            go_wp2
            go_quiet (fail)
            go_wp2
            go_quiet (fail)
            go_wp2
            go_roundg (mn - (i + 1))
            case rel =>
              go_light
              exact ⟨i + 1, _, by omega, rfl, by go_num, rfl, by rw [HE.out, E1.out.1, E1.out.2, cmp_eq]⟩
            case measure => go_light; omega
      · obtain rfl : i = mn := by omega
        by_cases hn : n1 < n2
        · have e1 := fl_end f1 n1 i (by have := HM.out; omega)
          have e2 := fl_drop f2 n2 i (by have := HM.out; omega)
          have E2 : Aside (cmpL (fl f1 n1) (fl f2 n2) = -1) := by rw [HE.out, e1, e2]; rfl
          clear e1 e2 HE r1 r2
          go_wp2
          go_ret
          exact ⟨ret_int (by rw [E2.out]), _, rfl⟩
        · by_cases hn' : n2 < n1
          · have e1 := fl_end f2 n2 i (by have := HM.out; omega)
            have e2 := fl_drop f1 n1 i (by have := HM.out; omega)
            have E2 : Aside (cmpL (fl f1 n1) (fl f2 n2) = 1) := by rw [HE.out, e1, e2]; rfl
            clear e1 e2 HE r1 r2
            go_wp2
            go_ret
            exact ⟨ret_int (by rw [E2.out]), _, rfl⟩
          · have e1 := fl_end f2 n2 i (by have := HM.out; omega)
            have e2 := fl_end f1 n1 i (by have := HM.out; omega)
            have E2 : Aside (cmpL (fl f1 n1) (fl f2 n2) = 0) := by rw [HE.out, e1, e2]; rfl
            clear e1 e2 HE r1 r2
            go_wp2
            go_ret
            exact ⟨ret_int (by rw [E2.out]), _, rfl⟩

set_option maxHeartbeats 1000000 in
theorem fold34 (s1 s2 : ByteArray) (w : World) (h1 : s1.size ≤ maxLen) (h2 : s2.size ≤ maxLen) :
    Calls Try.prog 34 #[.string s1, .string s2] w fun e w' => e = .returned (.int .i64 (cmpL (fl (fun i => low (oct s1 i)) s1.size) (fl (fun i => low (oct s2 i)) s2.size))) ∧ w' = w := by
  unfold maxLen at h1 h2
  go_enter Try.func34, Try.ntmps34
  go_upto_if 14 with (fail)
  go_cut [5] (fun v wc => v = .int .i64 (min s1.size s2.size : Nat) ∧ wc = w)
  case first =>
    by_cases hq : s2.size < s1.size
    · go_wp2
      go_meet
      case rel => exact ⟨by rw [Nat.min_eq_right (by omega)], rfl⟩
    · go_wp2
      go_meet
      case rel => exact ⟨by rw [Nat.min_eq_left (by omega)], rfl⟩
  case rest =>
    obtain ⟨rfl, hw⟩ := hcut
    subst hw
    obtain ⟨mn, hmn⟩ : ∃ mn, min s1.size s2.size = mn := ⟨_, rfl⟩
    rw [hmn]
    have hm1 : mn ≤ s1.size := by omega
    have hm2 : mn ≤ s2.size := by omega
    have HM : Aside (mn = s1.size ∨ mn = s2.size) := by show mn = s1.size ∨ mn = s2.size; omega
    clear hmn
    go_wp2
    go_loopg [6] mn (fun g v wr => ∃ i : Nat, i ≤ mn ∧ g = mn - i ∧ v = .int .i64 i ∧ wr = wc ∧ cmpL (fl (fun i => low (oct s1 i)) s1.size) (fl (fun i => low (oct s2 i)) s2.size) = cmpL ((fl (fun i => low (oct s1 i)) s1.size).drop i) ((fl (fun i => low (oct s2 i)) s2.size).drop i))
    case atStart => exact ⟨0, Nat.zero_le _, rfl, rfl, rfl, rfl⟩
    case round =>
      obtain ⟨i, hi, rfl, rfl, hw, he⟩ := hrel
      subst hw
      have HE : Aside (cmpL (fl (fun i => low (oct s1 i)) s1.size) (fl (fun i => low (oct s2 i)) s2.size) = cmpL ((fl (fun i => low (oct s1 i)) s1.size).drop i) ((fl (fun i => low (oct s2 i)) s2.size).drop i)) := he
      clear he
      by_cases hlt : i < mn
      · have z1 : (i : Int) < (s1.size : Int) := by omega
        have z2 : (i : Int) < (s2.size : Int) := by omega
        have b1 := oct_eq s1 i (by omega)
        have b2 := oct_eq s2 i (by omega)
        have L1 := low21 (oct s1 i) wr (oct_lt s1 i)
        have L2 := low21 (oct s2 i) wr (oct_lt s2 i)
        have E1 : Aside ((fl (fun i => low (oct s1 i)) s1.size).drop i = low (oct s1 i) :: (fl (fun i => low (oct s1 i)) s1.size).drop (i + 1) ∧ (fl (fun i => low (oct s2 i)) s2.size).drop i = low (oct s2 i) :: (fl (fun i => low (oct s2 i)) s2.size).drop (i + 1)) := ⟨fl_drop _ _ i (by omega), fl_drop _ _ i (by omega)⟩
        generalize oct s1 i = c1 at *
        generalize oct s2 i = c2 at *
        generalize low c1 = x at *
        generalize low c2 = y at *
        go_wp2_with fail
        refine L1.mono ?_
        rintro e w' ⟨rfl, hw⟩
        have hw2 := hw.symm
        subst hw2
        clear hw
        go_wp2_with fail
        refine L2.mono ?_
        rintro e w' ⟨rfl, hw⟩
        have hw2 := hw.symm
        subst hw2
        clear hw L1 L2 b1 b2
        by_cases hxy : x < y
        · have q1 : (x : Int) < (y : Int) := by omega
          go_wp2
          go_ret
          exact ⟨ret_int (by rw [HE.out, E1.out.1, E1.out.2, cmp_lt hxy]), rfl⟩
        · by_cases hyx : y < x
          · have q1 : (y : Int) < (x : Int) := by omega
            go_wp2
            go_ret
            exact ⟨ret_int (by rw [HE.out, E1.out.1, E1.out.2, cmp_gt hyx]), rfl⟩
          · obtain rfl : x = y := by omega
            clear hxy hyx
            go_wp2
            go_roundg (mn - (i + 1))
            case rel =>
              go_light
              exact ⟨i + 1, by omega, rfl, by go_num, rfl, by rw [HE.out, E1.out.1, E1.out.2, cmp_eq]⟩
            case measure => go_light; omega
      · obtain rfl : i = mn := by omega
        by_cases hn : s1.size < s2.size
        · have e1 := fl_end (fun i => low (oct s1 i)) s1.size i (by have := HM.out; omega)
          have e2 := fl_drop (fun i => low (oct s2 i)) s2.size i (by have := HM.out; omega)
          have E2 : Aside (cmpL (fl (fun i => low (oct s1 i)) s1.size) (fl (fun i => low (oct s2 i)) s2.size) = -1) := by rw [HE.out, e1, e2]; rfl
          clear e1 e2 HE
          go_wp2
          go_ret
          exact ⟨ret_int (by rw [E2.out]), rfl⟩
        · by_cases hn' : s2.size < s1.size
          · have e1 := fl_end (fun i => low (oct s2 i)) s2.size i (by have := HM.out; omega)
            have e2 := fl_drop (fun i => low (oct s1 i)) s1.size i (by have := HM.out; omega)
            have E2 : Aside (cmpL (fl (fun i => low (oct s1 i)) s1.size) (fl (fun i => low (oct s2 i)) s2.size) = 1) := by rw [HE.out, e1, e2]; rfl
            clear e1 e2 HE
            go_wp2
            go_ret
            exact ⟨ret_int (by rw [E2.out]), rfl⟩
          · have e1 := fl_end (fun i => low (oct s2 i)) s2.size i (by have := HM.out; omega)
            have e2 := fl_end (fun i => low (oct s1 i)) s1.size i (by have := HM.out; omega)
            have E2 : Aside (cmpL (fl (fun i => low (oct s1 i)) s1.size) (fl (fun i => low (oct s2 i)) s2.size) = 0) := by rw [HE.out, e1, e2]; rfl
            clear e1 e2 HE
            go_wp2
            go_ret
            exact ⟨ret_int (by rw [E2.out]), rfl⟩

/-- the j-th label, as a string -/
def labS (s : ByteArray) (j : Nat) : ByteArray := s.extract (off (oct s) j + 1) (off (oct s) j + 1 + oct s (off (oct s) j))

def LabsPost (s : ByteArray) (m : Nat) (w : World) (e : Ending) (w' : World) : Prop :=
  ∃ v, e = .returned v ∧ w'.ownsRow w.heap.size 9 1 v m ((List.range m).map fun j => .string (labS s j)) ∧ Below w.heap.size w w'

theorem labs20 (s : ByteArray) (m : Nat) (w : World) (V : Valid (oct s) s.size m) : Calls Try.prog 20 #[.string s] w fun e w' => LabsPost s m w e w' := by
  obtain ⟨i0, hi, hz0, hz1, hz2⟩ := info_parts Try.info9
  have hsm := V.small
  have hm := V.m_le
  have VV : Aside (Valid (oct s) s.size m) := V
  clear V
  go_enter Try.func20, Try.ntmps20
  go_wp2
  go_loopg [3, 4] m (fun g v o wr => ∃ j : Nat, j ≤ m ∧ g = m - j ∧ o = .int .i64 (off (oct s) j) ∧ wr.ownsRow w.heap.size 9 1 v j ((List.range j).map fun j => .string (labS s j)) ∧ Below w.heap.size w wr)
  case atStart => exact ⟨0, Nat.zero_le _, rfl, rfl, World.ownsRow_nil _ _ _ _, Below.refl _ _⟩
  case round =>
    obtain ⟨j, hj, rfl, rfl, ho, hB⟩ := hrel
    have hlt : off (oct s) j < s.size := by
      have h1 := off_mono (oct s) hj
      have h2 := VV.out.fin
      omega
    have hb1 := oct_eq s _ hlt
    have hb2 := oct_lt s (off (oct s) j)
    have hlz : (off (oct s) j : Int) < (s.size : Int) := by omega
    have hbs := hB.size
    have OO : Aside (wr.ownsRow w.heap.size 9 1 u3 j ((List.range j).map fun j => .string (labS s j)) ∧ Below w.heap.size w wr) := ⟨ho, hB⟩
    clear ho hB
    by_cases hjm : j < m
    · have hnz := VV.out.lens j hjm
      have hnz' : ((oct s (off (oct s) j) : Int) != 0) = true := by simp; omega
      have EN : Aside (off (oct s) (j + 1) = off (oct s) j + (1 + oct s (off (oct s) j))) := rfl
      have EL : Aside (labS s j = s.extract (off (oct s) j + 1) (off (oct s) j + 1 + oct s (off (oct s) j))) := rfl
      have hnx := VV.out.lt hjm
      generalize hoo : off (oct s) j = o at *
      clear hoo
      have hsl : ∀ w : World, (Instr.slice 9 (.string s) (some (.int .i64 ((o : Int) + 1))) (some (.int .i64 ((o : Int) + 1 + (oct s o : Int)))) none).run Try.prog w = .ok (.string (s.extract (o + 1) (o + 1 + oct s o))) w := fun w => by
        have := run_slice_string (P := Try.prog) w 9 s .i64 .i64 ((o : Int) + 1) ((o : Int) + 1 + (oct s o : Int)) Try.underlying9 (by omega) (by omega) (by omega)
        have e1 : ((o : Int) + 1).toNat = o + 1 := by omega
        have e2 : ((o : Int) + 1 + (oct s o : Int)).toNat = o + 1 + oct s o := by omega
        rw [e1, e2] at this
        exact this
      go_wp2_with (at_builtin; refine wpList_append_own _ rfl (.tmp 27) (.tmp 33) 36 rfl w.heap.size 9 i0 (.string ByteArray.empty) 1 16 Try.underlying36 hi hz0 hz1 hz2 rfl (by decide) _ _ _ rfl (OO.out.1.alloc _) ⟨wr.heap.size, 0, none⟩ 1 1 [.string (s.extract (o + 1) (o + 1 + oct s o))] rfl rfl (cell_one_new _ _ _) (by simp [Value.oneCell']) (by simp only [maxLen]; omega) (by omega) (by simp; omega) ?_; intro v' w1 hown1 hgr1 _)
      go_roundg (m - (j + 1))
      case rel =>
        go_light
        refine ⟨j + 1, by omega, rfl, by rw [EN.out]; go_num, ?_, ?_⟩
        · rw [List.range_succ, List.map_append, List.map_singleton, EL.out]
          exact hown1
        · exact (OO.out.2.alloc hbs _).grown hgr1 (by simp; omega) (own_ge OO.out.1)
      case measure => go_light; omega
    · obtain rfl : j = m := by omega
      have hz := VV.out.zero
      have hz' : ((oct s (off (oct s) j) : Int) != 0) = false := by rw [hz]; rfl
      clear hz
      go_wp2
      go_ret
      exact ⟨_, rfl, OO.out.1, OO.out.2⟩

/-- the labels' octets -/
theorem labS_fl {s : ByteArray} {m j : Nat} (V : Valid (oct s) s.size m) (hj : j < m) : (labS s j).size = oct s (off (oct s) j) ∧ fl (fun i => low (oct (labS s j) i)) (labS s j).size = (lab (oct s) j).map low := by
  have hlt := V.lt hj
  have hsz : (labS s j).size = oct s (off (oct s) j) := by simp [labS]; omega
  refine ⟨hsz, ?_⟩
  rw [hsz]
  simp only [fl, lab, List.map_map]
  refine List.map_congr_left fun i hi => ?_
  rw [List.mem_range] at hi
  have h1 := oct_eq (labS s j) i (by omega)
  have h2 := oct_eq s (off (oct s) j + 1 + i) (by omega)
  have h3 : ((labS s j)[i]'(by omega)).toNat = (s[off (oct s) j + 1 + i]'(by omega)).toNat := by
    simp [labS, ByteArray.getElem_eq_getElem_data]
  show low (oct (labS s j) i) = low (oct s (off (oct s) j + 1 + i))
  rw [← h1, ← h2, h3]

theorem labs_drop (f : Nat → Nat) (m t : Nat) (h : t < m) : (labsR f m m).drop t = lab f (m - 1 - t) :: (labsR f m m).drop (t + 1) := by
  rw [List.drop_eq_getElem_cons (by simp [labsR]; exact h)]
  simp [labsR]
theorem labs_end (f : Nat → Nat) (m t : Nat) (h : m ≤ t) : (labsR f m m).drop t = [] := by
  rw [List.drop_eq_nil_iff]; simp [labsR]; exact h

theorem getD_range (f : Nat → Value) (n i : Nat) (h : i < n) : ((List.range n).map f).getD i undef = f i := by simp [List.getD, h]

def CanPost (r : Int) (w : World) (e : Ending) (w' : World) : Prop := e = .returned (.int .i64 r) ∧ Below w.heap.size w w'

set_option maxHeartbeats 1000000 in
theorem canon24 (s1 s2 : ByteArray) (m1 m2 : Nat) (w : World) (V1 : Valid (oct s1) s1.size m1) (V2 : Valid (oct s2) s2.size m2) :
    Calls Try.prog 24 #[.string s1, .string s2] w fun e w' => CanPost (cmpN (labsR (oct s1) m1 m1) (labsR (oct s2) m2 m2)) w e w' := by
  have hm1 := V1.m_le
  have hm2 := V2.m_le
  have VV : Aside (Valid (oct s1) s1.size m1 ∧ Valid (oct s2) s2.size m2) := ⟨V1, V2⟩
  clear V1 V2
  go_enter Try.func24, Try.ntmps24
  go_wp2_with fail
  refine (labs20 s1 m1 w VV.out.1).mono ?_
  rintro e w1 ⟨v1, rfl, o1, hb1⟩
  obtain ⟨a1, c1, rfl, _, R1⟩ := own_reads o1
  clear o1
  go_wp2_with fail
  refine (labs20 s2 m2 w1 VV.out.2).mono ?_
  rintro e w2 ⟨v2, rfl, o2, hb2⟩
  obtain ⟨a2, c2, rfl, _, R2⟩ := own_reads o2
  have R1 := R1.below hb2
  have bel : Below w.heap.size w w2 := hb1.trans (hb2.mono hb1.size)
  have BB : Aside (Below w.heap.size w w2) := bel
  clear o2 hb1 hb2 bel
  go_wp2
  go_loopg [7, 8] m1 (fun g i1 i2 wr => ∃ t d : Nat, t ≤ m1 ∧ t ≤ m2 ∧ g = m1 - t ∧ i1 = .int .i64 ((m1 : Int) - 1 - t) ∧ i2 = .int .i64 ((m2 : Int) - 1 - t) ∧ wr = w2.drewN d ∧ cmpN (labsR (oct s1) m1 m1) (labsR (oct s2) m2 m2) = cmpN ((labsR (oct s1) m1 m1).drop t) ((labsR (oct s2) m2 m2).drop t))
  case atStart => exact ⟨0, 0, Nat.zero_le _, Nat.zero_le _, rfl, by go_num, by go_num, rfl, rfl⟩
  case round =>
    obtain ⟨t, d, ht1, ht2, rfl, rfl, rfl, hw, he⟩ := hrel
    subst hw
    have HE : Aside (cmpN (labsR (oct s1) m1 m1) (labsR (oct s2) m2 m2) = cmpN ((labsR (oct s1) m1 m1).drop t) ((labsR (oct s2) m2 m2).drop t)) := he
    clear he
    by_cases h1 : t < m1
    · by_cases h2 : t < m2
      · obtain ⟨b1, p1, rfl, G1⟩ := R1 (by omega)
        obtain ⟨b2, p2, rfl, G2⟩ := R2 (by omega)
        have g1 : w2.cell? ⟨b1, p1 + (m1 - 1 - t), none⟩ = some (.string (labS s1 (m1 - 1 - t))) := by
          have := G1 (m1 - 1 - t) (by omega)
          dsimp only at this
          rw [getD_range _ _ _ (by omega)] at this
          exact this
        have g2 : w2.cell? ⟨b2, p2 + (m2 - 1 - t), none⟩ = some (.string (labS s2 (m2 - 1 - t))) := by
          have := G2 (m2 - 1 - t) (by omega)
          dsimp only at this
          rw [getD_range _ _ _ (by omega)] at this
          exact this
        have z1 : (m1 : Int) - 1 - (t : Int) < (m1 : Int) := by omega
        have z2 : (m2 : Int) - 1 - (t : Int) < (m2 : Int) := by omega
        have y1 : (0 : Int) ≤ (m1 : Int) - 1 - (t : Int) := by omega
        have y2 : (0 : Int) ≤ (m2 : Int) - 1 - (t : Int) := by omega
        have E1 := labs_drop (oct s1) m1 t h1
        have E2 := labs_drop (oct s2) m2 t h2
        have F1 := labS_fl VV.out.1 (show m1 - 1 - t < m1 by omega)
        have F2 := labS_fl VV.out.2 (show m2 - 1 - t < m2 by omega)
        have q1 : (labS s1 (m1 - 1 - t)).size ≤ maxLen := by rw [F1.1]; have := oct_lt s1 (off (oct s1) (m1 - 1 - t)); simp only [maxLen]; omega
        have q2 : (labS s2 (m2 - 1 - t)).size ≤ maxLen := by rw [F2.1]; have := oct_lt s2 (off (oct s2) (m2 - 1 - t)); simp only [maxLen]; omega
        have H34 : ∀ W : World, Calls Try.prog 34 #[.string (labS s1 (m1 - 1 - t)), .string (labS s2 (m2 - 1 - t))] W fun e w' => e = .returned (.int .i64 (labcmp (lab (oct s1) (m1 - 1 - t)) (lab (oct s2) (m2 - 1 - t)))) ∧ w' = W := fun W => by
          have := fold34 _ _ W q1 q2
          rw [F1.2, F2.2] at this
          exact this
        have EE : Aside (cmpN (labsR (oct s1) m1 m1) (labsR (oct s2) m2 m2) = if labcmp (lab (oct s1) (m1 - 1 - t)) (lab (oct s2) (m2 - 1 - t)) ≠ 0 then labcmp (lab (oct s1) (m1 - 1 - t)) (lab (oct s2) (m2 - 1 - t)) else cmpN ((labsR (oct s1) m1 m1).drop (t + 1)) ((labsR (oct s2) m2 m2).drop (t + 1))) := by
          rw [HE.out, E1, E2]; rfl
        have H34' : Aside (∀ W : World, Calls Try.prog 34 #[.string (labS s1 (m1 - 1 - t)), .string (labS s2 (m2 - 1 - t))] W fun e w' => e = .returned (.int .i64 (labcmp (lab (oct s1) (m1 - 1 - t)) (lab (oct s2) (m2 - 1 - t)))) ∧ w' = W) := H34
        clear H34
        generalize labcmp (lab (oct s1) (m1 - 1 - t)) (lab (oct s2) (m2 - 1 - t)) = r at *
        have g1 : (w2.drewN d).cell? ⟨b1, p1 + (m1 - 1 - t), none⟩ = some (.string (labS s1 (m1 - 1 - t))) := g1
        have g2 : (w2.drewN d).cell? ⟨b2, p2 + (m2 - 1 - t), none⟩ = some (.string (labS s2 (m2 - 1 - t))) := g2
        obtain ⟨wq, hwq⟩ : ∃ wq, w2.drewN d = wq := ⟨_, rfl⟩
        rw [hwq] at g1 g2 ⊢
        have HWQ : Aside (w2.drewN d = wq) := hwq
        clear hwq
        clear E1 E2 F1 F2 q1 q2 G1 G2 R1 R2
        by_cases hr : r = 0
        · subst hr
          go_wp2
          go_quiet ((go_at_call 34; exact Calls.quiet_of_same (H34'.out _)))
          go_wp2
          go_roundg (m1 - (t + 1))
          case rel =>
            go_light
            exact ⟨t + 1, d + nq, by omega, by omega, rfl, by go_num, by go_num, by rw [← HWQ.out, World.drewN_drewN], by rw [EE.out]; rfl⟩
          case measure => go_light; omega
        · have hr' : (r != 0) = true := by simpa using hr
          go_wp2
          go_quiet ((go_at_call 34; exact Calls.quiet_of_same (H34'.out _)))
          go_wp2
          go_ret
          exact ⟨ret_int (by rw [EE.out, if_pos hr]), (by rw [← HWQ.out]; exact below_drewN (below_drewN BB.out _) _)⟩
      · obtain rfl : t = m2 := by omega
        have e1 := labs_drop (oct s1) m1 t h1
        have e2 := labs_end (oct s2) t t (Nat.le_refl _)
        have E2 : Aside (cmpN (labsR (oct s1) m1 m1) (labsR (oct s2) t t) = 1) := by rw [HE.out, e1, e2]; rfl
        clear e1 e2 HE R1 R2
        go_wp2
        go_ret
        exact ⟨ret_int (by rw [E2.out]), below_drewN BB.out _⟩
    · obtain rfl : t = m1 := by omega
      by_cases h2 : t < m2
      · have e1 := labs_end (oct s1) t t (Nat.le_refl _)
        have e2 := labs_drop (oct s2) m2 t h2
        have E2 : Aside (cmpN (labsR (oct s1) t t) (labsR (oct s2) m2 m2) = -1) := by rw [HE.out, e1, e2]; rfl
        clear e1 e2 HE R1 R2
        go_wp2
        go_ret
        exact ⟨ret_int (by rw [E2.out]), below_drewN BB.out _⟩
      · obtain rfl : t = m2 := by omega
        have e1 := labs_end (oct s1) t t (Nat.le_refl _)
        have e2 := labs_end (oct s2) t t (Nat.le_refl _)
        have E2 : Aside (cmpN (labsR (oct s1) t t) (labsR (oct s2) t t) = 0) := by rw [HE.out, e1, e2]; rfl
        clear e1 e2 HE R1 R2
        go_wp2
        go_ret
        exact ⟨ret_int (by rw [E2.out]), below_drewN BB.out _⟩
end Go.Proofs.Qxb6603969a
