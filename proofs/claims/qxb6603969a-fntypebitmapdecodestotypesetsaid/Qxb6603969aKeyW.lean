import Derived.Test.Qxb6603969aOffs
import Derived.Deep.RegionWith
import Derived.Laws.IdiomStrings
namespace Go.Proofs.Qxb6603969a
open Go.RowKit
set_option linter.unusedVariables false

theorem zero52 (w : World) : (zeroValue 52).run Try.prog w = .ok (.agg (Array.replicate 127 (.int .u8 0))) w := by kernel_rfl

def bytesV (l : List Nat) : List Value := l.map fun c : Nat => .int .u8 (c : Int)

def KeyPost (s : ByteArray) (m : Nat) (w : World) (e : Ending) (w' : World) : Prop :=
  ∃ v, e = .returned v ∧ w'.ownsRow w.heap.size 5 1 v (key (labsR (oct s) m m)).length (bytesV (key (labsR (oct s) m m))) ∧ Below w.heap.size w w'

theorem arr_row (w : World) : (w.alloc (.cells (Array.replicate 127 (.int .u8 0)) 52)).rowIs w.heap.size 52 127 (fun _ => .int .u8 0) := by
  have := World.rowIs_alloc w (Array.replicate 127 (.int .u8 0)) 52 (fun _ => .int .u8 0) (fun i hi => by simp at hi; simp [hi])
  simpa using this

/-- an owned row is no block of another make -/
theorem own_ne {w : World} {B n : Nat} {v : Value} {xs : List Value} (h : w.ownsRow B 5 1 v n xs) {nb : Nat} {C : Array Value} {t : TypeId} {fr : Nat × Nat} (hb : w.heap[nb]? = some (.cells C t fr)) (hne : ¬ (t = 5 ∧ fr = (0, 0))) : v.ownBlock ≠ some nb := by
  rcases h.2 with ⟨rfl, _⟩ | ⟨g, cap, cur, rfl, _, hg, _⟩
  · simp [Value.ownBlock]
  · intro e
    simp [Value.ownBlock] at e
    subst e
    rw [hg] at hb
    simp at hb
    exact hne ⟨hb.2.1.symm, hb.2.2.symm⟩

structure KI (w wr : World) (s : ByteArray) (m : Nat) (v : Value) (K : List Nat) : Prop where
  bel : Below w.heap.size w wr
  size : w.heap.size + 1 < wr.heap.size
  own : wr.ownsRow w.heap.size 5 1 v K.length (bytesV K)
  offs : wr.rowIs (w.heap.size + 1) 52 127 (fun j => if j < m then .int .u8 (off (oct s) j : Int) else .int .u8 0)
  nm : wr.rowIs w.heap.size 27 1 (fun _ => .string s)

theorem KI.later {w wr w1 : World} {s : ByteArray} {m : Nat} {v : Value} {K : List Nat} (h : KI w wr s m v K) (hb : Below wr.heap.size wr w1) : KI w w1 s m v K := by
  have := hb.size
  have := h.size
  refine ⟨h.bel.trans (hb.mono h.bel.size), by omega, ?_, h.offs.of_block (hb.block _ h.offs.lt), h.nm.of_block (hb.block _ h.nm.lt)⟩
  obtain ⟨h1, h2⟩ := h.own
  refine ⟨h1, ?_⟩
  rcases h2 with h2 | ⟨g, cap, cur, hv, hg, hh, r⟩
  · exact Or.inl h2
  · have hlt : g < wr.heap.size := by
      obtain ⟨h3, _⟩ := Array.getElem?_eq_some_iff.1 hh
      exact h3
    exact Or.inr ⟨g, cap, cur, hv, hg, by rw [hb.block g hlt]; exact hh, r⟩

theorem KI.grow {w wr w1 : World} {s : ByteArray} {m : Nat} {v v' : Value} {K ks : List Nat} (h : KI w wr s m v K) (hown : w1.ownsRow w.heap.size 5 1 v' (K.length + ks.length) (bytesV K ++ bytesV ks)) (hg : wr.grownBy w1 v.ownBlock) : KI w w1 s m v' (K ++ ks) := by
  have hs := h.size
  have hs1 := hg.size
  have n1 : v.ownBlock ≠ some (w.heap.size + 1) := by
    obtain ⟨C, hC, _⟩ := h.offs
    exact own_ne h.own hC (by simp)
  have n0 : v.ownBlock ≠ some w.heap.size := by
    obtain ⟨C, hC, _⟩ := h.nm
    exact own_ne h.own hC (by simp)
  refine ⟨h.bel.grown hg (by omega) ?_, by omega, ?_, h.offs.of_block (hg.block _ h.offs.lt (fun e => n1 e.symm)), h.nm.of_block (hg.block _ h.nm.lt (fun e => n0 e.symm))⟩
  · intro k hk
    rcases h.own.2 with ⟨rfl, _⟩ | ⟨g, cap, cur, rfl, hb, _⟩
    · simp [Value.ownBlock] at hk
    · simp [Value.ownBlock] at hk; omega
  · rw [List.length_append]
    simpa [bytesV] using hown

theorem keep_block {wr w1 : World} {B n : Nat} {v : Value} {xs : List Value} (h : wr.ownsRow B 5 1 v n xs) {nb : Nat} {C : Array Value} {k : Nat} (hb : wr.heap[nb]? = some (.cells C 5 (k, k + 1))) (hg : wr.grownBy w1 v.ownBlock) : w1.heap[nb]? = some (.cells C 5 (k, k + 1)) := by
  have hlt : nb < wr.heap.size := by
    obtain ⟨h3, _⟩ := Array.getElem?_eq_some_iff.1 hb
    exact h3
  rw [hg.block nb hlt (fun e => own_ne h hb (by simp) e.symm)]
  exact hb

theorem cell_two_new' (w : World) (x y : Value) (t : TypeId) : ∀ j u, [x, y][j]? = some u → (w.alloc (.cells #[x, y] t)).cell? ((⟨w.heap.size, 0, none⟩ : Addr).add j) = some u := by
  intro j u hj
  match j, hj with
  | 0, hj => simp at hj; subst hj; simp [Addr.add]
  | 1, hj => simp at hj; subst hj; simp [Addr.add]

theorem enc_take {l : List Nat} {i c : Nat} (h : l[i]? = some c) : (l.take (i + 1)).flatMap encB = (l.take i).flatMap encB ++ encB c := by
  rw [List.take_add_one, h]
  simp

/-- the octets of a label, as a row -/
theorem lab_row (s : ByteArray) (o n cap : Nat) (h : o + 1 + n ≤ s.size) : (s.extract (o + 1) (o + 1 + n)).size = n ∧ ∀ i, i < n → (bytesRow (s.extract (o + 1) (o + 1 + n)) cap)[i]? = some (.int .u8 (oct s (o + 1 + i) : Int)) := by
  have hsz : (s.extract (o + 1) (o + 1 + n)).size = n := by simp; omega
  refine ⟨hsz, fun i hi => ?_⟩
  have h1 : i < (s.extract (o + 1) (o + 1 + n)).data.size := by show i < (s.extract (o + 1) (o + 1 + n)).size; omega
  rw [bytesRow_at _ _ _ h1]
  have h2 := oct_eq s (o + 1 + i) (by omega)
  rw [← h2]
  congr 3
  simp [ByteArray.getElem_eq_getElem_data]

set_option maxHeartbeats 4000000 in
set_option maxRecDepth 100000 in
theorem key18 (s : ByteArray) (m : Nat) (w : World) (V : Valid (oct s) s.size m) :
    Calls Try.prog 18 #[.agg #[.string s], .slice none 0 0] w fun e w' => KeyPost s m w e w' := by
  obtain ⟨i0, hi, hz0, hz1, hz2⟩ := info_parts Try.info5
  have ha := zero52
  have hsm := V.small
  have hm := V.m_le
  have VV : Aside (Valid (oct s) s.size m) := V
  clear V
  go_enter Try.func18, Try.ntmps18
  go_upto_region 2 with (fail)
  clear ha
  have hrow : Aside (((w.alloc (.cells #[.string s] 27)).alloc (.cells (Array.replicate 127 (.int .u8 0)) 52)).drew.rowIs (w.heap.size + 1) 52 127 (fun _ => .int .u8 0)) := by
    have := arr_row (w.alloc (.cells #[.string s] 27))
    simp only [World.size_alloc] at this
    exact this
  go_cut [6] (fun v wc => v = .slice (some ⟨w.heap.size + 1, 0, none⟩) m 127 ∧ KI w wc s m (.slice none 0 0) [])
  case first =>
    have hnm : Aside (((w.alloc (.cells #[.string s] 27)).alloc (.cells (Array.replicate 127 (.int .u8 0)) 52)).drew.rowIs w.heap.size 27 1 (fun _ => .string s)) := by
      exact (World.rowIs_alloc w #[.string s] 27 (fun _ => .string s) (fun i hi => by
        match i, hi with
        | 0, _ => rfl)).alloc _
    go_region_with (go_at_call 32; refine (offs32 s m (w.heap.size + 1) 52 _ VV.out hrow.out).mono ?_; rintro e w1 ⟨rfl, hr, ho⟩)
    all_goals
      go_wp2
      go_meet
      case rel =>
        refine ⟨rfl, ?_, ?_, ?_, hr, ?_⟩
        · exact Only.below (Below.drew (((Below.refl _ _).alloc (Nat.le_refl _) _).alloc (by simp) _)) ho (by omega) (by simp <;> omega)
        · have := hr.lt; exact this
        · exact World.ownsRow_nil _ _ _ _
        · exact hnm.out.of_block (ho.block _ (by simp <;> omega) (by omega))
  case rest =>
    obtain ⟨rfl, hK⟩ := hcut
    clear hrow
    have K0 : Aside (KI w wc s m (.slice none 0 0) []) := hK
    clear hK
    go_wp2
    go_loopg [1, 7] m (fun g v1 v7 wx => ∃ t : Nat, t ≤ m ∧ g = m - t ∧ v7 = .int .i64 ((m : Int) - 1 - t) ∧ KI w wx s m v1 (key (labsR (oct s) m t)))
    case atStart => exact ⟨0, Nat.zero_le _, rfl, by go_num, K0.out⟩
    case round =>
      obtain ⟨t, ht, rfl, rfl, hK⟩ := hrel
      have hkl := key_len (oct s) m t ht
      have hfin := VV.out.fin
      by_cases htm : t < m
      · have hi0 : (0 : Int) ≤ (m : Int) - 1 - (t : Int) := by omega
        have hi1 : (m : Int) - 1 - (t : Int) < (m : Int) := by omega
        have hlb := VV.out.lt (show m - 1 - t < m by omega)
        have co := hK.offs.cell (i := m - 1 - t) (by omega)
        rw [if_pos (by omega)] at co
        have cn := hK.nm.cell (i := 0) (by omega)
        have ks : Aside (key (labsR (oct s) m (t + 1)) = key (labsR (oct s) m t) ++ encL (lab (oct s) (m - 1 - t))) := key_succ _ _ _
        have hlab : Aside (lab (oct s) (m - 1 - t) = (List.range (oct s (off (oct s) (m - 1 - t)))).map fun i => oct s (off (oct s) (m - 1 - t) + 1 + i)) := rfl
        have hoo2 : off (oct s) (m - 1 - t) < 256 := by omega
        have hln := oct_lt s (off (oct s) (m - 1 - t))
        generalize hoo : off (oct s) (m - 1 - t) = o at *
        have HO : Aside (off (oct s) (m - 1 - t) = o) := hoo
        clear hoo
        have HK : Aside (KI w wr s m u1 (key (labsR (oct s) m t))) := hK
        clear hK
        go_upto_region 6 with (fail)
        obtain ⟨v1, hv1⟩ : ∃ v1, u1 = v1 := ⟨_, rfl⟩
        subst hv1
        have kc := fun (w : World) (L : ByteArray) => run_bytes_of_string (P := Try.prog) w 9 22 5 L Try.underlying9 Try.underlying22 Try.underlying5
        have hLs := (lab_row s o (oct s o) 0 (by omega)).1
        go_cut [26, 27, 28] (fun v26 v27 v28 wc => ∃ nb c26 C k, v26 = .slice (some ⟨nb, 0, none⟩) (oct s o) c26 ∧ v27 = .int .i64 (oct s o) ∧ v28 = .int .i64 0 ∧ KI w wc s m u1 (key (labsR (oct s) m t)) ∧ wc.heap[nb]? = some (.cells C 5 (k, k + 1)) ∧ ∀ i, i < oct s o → C[i]? = some (.int .u8 (oct s (o + 1 + i) : Int)))
        case first =>
          go_region_with (go_at_call 29; refine (label29 s o _ hoo2 hlb hsm).mono ?_; rintro e w1 ⟨rfl, hb1⟩)
          all_goals
            go_wp2
            go_meet
            case rel =>
              go_light
              have hbl : Below wr.heap.size wr w1 := ((Below.refl wr.heap.size wr).drew).trans hb1
              exact ⟨w1.heap.size, _, _, _, rfl, rfl, rfl, HK.out.later (Below.drew (hbl.alloc hbl.size _)), Go.Deep.blk_alloc_new _ _, (lab_row s o (oct s o) _ (by omega)).2⟩
        case rest =>
          obtain ⟨nb, c26, C, k, rfl, rfl, rfl, hK, hnb, hC⟩ := hcut
          clear kc hLs co cn HK K0
          have HC : Aside (∀ i, i < oct s o → C[i]? = some (.int .u8 (oct s (o + 1 + i) : Int))) := hC
          have W1 : Aside (KI w wc s m u1 (key (labsR (oct s) m t)) ∧ wc.heap[nb]? = some (.cells C 5 (k, k + 1))) := ⟨hK, hnb⟩
          clear hC hK hnb
          go_wp2
          go_loopg [1, 28] (oct s o) (fun g v1 v28 wx => ∃ i : Nat, i ≤ oct s o ∧ g = oct s o - i ∧ v28 = .int .i64 i ∧ KI w wx s m v1 (key (labsR (oct s) m t) ++ ((lab (oct s) (m - 1 - t)).take i).flatMap encB) ∧ wx.heap[nb]? = some (.cells C 5 (k, k + 1)))
          case atStart => exact ⟨0, Nat.zero_le _, rfl, rfl, by simpa using W1.out.1, W1.out.2⟩
          case round =>
            obtain ⟨i, hi', rfl, rfl, hK, hnb⟩ := hrel
            have hll : (lab (oct s) (m - 1 - t)).length = oct s o := by rw [hlab.out]; simp
            have hfl := flat_len ((lab (oct s) (m - 1 - t)).take i)
            have hlen : (key (labsR (oct s) m t) ++ ((lab (oct s) (m - 1 - t)).take i).flatMap encB).length ≤ 2000 := by
              rw [List.length_append]
              rw [List.length_take] at hfl
              omega
            have hsz := hK.size
            have hbel := hK.bel.size
            by_cases hio : i < oct s o
            · have hcell : wr.cell? ⟨nb, i, none⟩ = some (.int .u8 (oct s (o + 1 + i) : Int)) := by
                have := HC.out i hio
                simp [World.cell?, hnb, this]
              have hstep : Aside (((lab (oct s) (m - 1 - t)).take (i + 1)).flatMap encB = ((lab (oct s) (m - 1 - t)).take i).flatMap encB ++ encB (oct s (o + 1 + i))) := by
                refine enc_take ?_
                rw [hlab.out]
                simp [hio]
              have hc256 := oct_lt s (o + 1 + i)
              generalize hcc : oct s (o + 1 + i) = c at *
              have A : Aside (KI w wr s m u1 (key (labsR (oct s) m t) ++ ((lab (oct s) (m - 1 - t)).take i).flatMap encB) ∧ wr.heap[nb]? = some (.cells C 5 (k, k + 1))) := ⟨hK, hnb⟩
              clear hcc hK hnb hfl hll
              generalize hKK : key (labsR (oct s) m t) ++ ((lab (oct s) (m - 1 - t)).take i).flatMap encB = KK at *
              have HKK : Aside (key (labsR (oct s) m t) ++ ((lab (oct s) (m - 1 - t)).take i).flatMap encB = KK) := hKK
              clear hKK
              have hiz : (i : Int) < (oct s o : Int) := by omega
              by_cases hc0 : c = 0
              · subst hc0
                go_wp2_with (at_builtin; refine wpList_append_own _ rfl (.tmp 34) (.tmp 35) 22 rfl w.heap.size 5 i0 (.int .u8 0) 1 1 Try.underlying22 hi hz0 hz1 hz2 rfl (by decide) _ _ _ rfl (A.out.1.own.alloc _) ⟨wr.heap.size, 0, none⟩ 2 2 [.int .u8 0, .int .u8 255] rfl rfl (cell_two_new' _ _ _ _) (by simp [Value.oneCell']) (by simp only [maxLen]; omega) (by omega) (by simp; omega) ?_; intro v' w1 hown1 hgr1 _)
                go_roundg (oct s o - (i + 1))
                case rel =>
                  go_light
                  have hA := A.out.1.later ((Below.refl _ _).alloc (Nat.le_refl _) (.cells #[.int .u8 0, .int .u8 255] 5))
                  have hb : (wr.alloc (.cells #[.int .u8 0, .int .u8 255] 5)).heap[nb]? = some (.cells C 5 (k, k + 1)) := by
                    rw [((Below.refl _ _).alloc (Nat.le_refl _) _).block nb (Array.getElem?_eq_some_iff.1 A.out.2).1]; exact A.out.2
                  refine ⟨i + 1, by omega, rfl, by go_num, ?_, keep_block hA.own hb hgr1⟩
                  rw [hstep.out, ← List.append_assoc, HKK.out]
                  exact hA.grow (ks := encB 0) hown1 hgr1
                case measure => go_light; omega
              · have hc0' : ((c : Int) == 0) = false := beq_eq_false_iff_ne.2 (by omega)
                have L33 := low33 c wr hc256
                go_wp2_with (first | (go_at_call 33; refine L33.mono ?_; rintro e w' ⟨rfl, hw⟩; have hw2 := hw.symm; subst hw2) | (at_builtin; refine wpList_append_own _ rfl (.tmp 37) (.tmp 40) 22 rfl w.heap.size 5 i0 (.int .u8 0) 1 1 Try.underlying22 hi hz0 hz1 hz2 rfl (by decide) _ _ _ rfl (A.out.1.own.alloc _) ⟨wr.heap.size, 0, none⟩ 1 1 [.int .u8 (low c : Int)] rfl rfl (cell_one_new _ _ _) (by simp [Value.oneCell']) (by simp only [maxLen]; omega) (by omega) (by simp; omega) ?_; intro v' w1 hown1 hgr1 _))
                go_roundg (oct s o - (i + 1))
                case rel =>
                  go_light
                  have hA := A.out.1.later ((Below.refl _ _).alloc (Nat.le_refl _) (.cells #[.int .u8 (low c : Int)] 5))
                  have hb : (wr.alloc (.cells #[.int .u8 (low c : Int)] 5)).heap[nb]? = some (.cells C 5 (k, k + 1)) := by
                    rw [((Below.refl _ _).alloc (Nat.le_refl _) _).block nb (Array.getElem?_eq_some_iff.1 A.out.2).1]; exact A.out.2
                  refine ⟨i + 1, by omega, rfl, by go_num, ?_, keep_block hA.own hb hgr1⟩
                  have he : encB c = [low c] := by simp [encB, hc0]
                  rw [hstep.out, ← List.append_assoc, HKK.out, he]
                  exact hA.grow (ks := [low c]) hown1 hgr1
                case measure => go_light; omega
            · obtain rfl : i = oct s o := by omega
              have hfull : Aside (key (labsR (oct s) m t) ++ ((lab (oct s) (m - 1 - t)).take (oct s o)).flatMap encB ++ [0, 1] = key (labsR (oct s) m (t + 1))) := by
                show _ = _
                rw [ks.out, List.take_of_length_le (by omega)]
                simp [encL]
              have A : Aside (KI w wr s m u1 (key (labsR (oct s) m t) ++ ((lab (oct s) (m - 1 - t)).take (oct s o)).flatMap encB)) := hK
              clear hK hnb hfl hll W1 HC
              generalize hKK : key (labsR (oct s) m t) ++ ((lab (oct s) (m - 1 - t)).take (oct s o)).flatMap encB = KK at *
              clear hKK
              go_wp2_with (at_builtin; refine wpList_append_own _ rfl (.tmp 43) (.tmp 44) 22 rfl w.heap.size 5 i0 (.int .u8 0) 1 1 Try.underlying22 hi hz0 hz1 hz2 rfl (by decide) _ _ _ rfl (A.out.own.alloc _) ⟨wr.heap.size, 0, none⟩ 2 2 [.int .u8 0, .int .u8 1] rfl rfl (cell_two_new' _ _ _ _) (by simp [Value.oneCell']) (by simp only [maxLen]; omega) (by omega) (by simp; omega) ?_; intro v' w1 hown1 hgr1 _)
              go_roundg (m - (t + 1))
              case rel =>
                go_light
                have hA := A.out.later ((Below.refl _ _).alloc (Nat.le_refl _) (.cells #[.int .u8 0, .int .u8 1] 5))
                refine ⟨t + 1, by omega, rfl, by go_num, ?_⟩
                rw [← hfull.out]
                exact hA.grow (ks := [0, 1]) hown1 hgr1
              case measure => go_light; omega
      · obtain rfl : t = m := by omega
        have A : Aside (KI w wr s t u1 (key (labsR (oct s) t t))) := hK
        clear hK
        go_wp2
        go_ret
        exact ⟨_, rfl, A.out.own, A.out.bel⟩
end Go.Proofs.Qxb6603969a
