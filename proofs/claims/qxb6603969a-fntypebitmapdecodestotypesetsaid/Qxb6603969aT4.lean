import Derived.Test.Qxb6603969aT3
import Derived.Test.Qxb6603969aBit
namespace Go.Proofs.Qxb6603969a
open Go.RowKit Go.Sort
set_option linter.unusedVariables false

def C35 (zs : List Int) (w : World) (e : Ending) (w' : World) : Prop :=
  ∃ g cap, e = .returned (.slice (some ⟨g, 0, none⟩) zs.length cap) ∧ w.heap.size ≤ g ∧ SRow w' g 0 zs.toArray ∧ Below w.heap.size w w'

theorem clone35_nil (w : World) : Calls Try.prog 35 #[.slice none 0 0] w fun e w' => e = .returned (.slice none 0 0) ∧ w' = w := AnyE.slices_Clone_nil Try.lays41 0 0 w

theorem clone35 (g : Nat) (zs : List Int) (w : World) (hg : w.heap[g]? = some (.cells (zs.map (.int .u16)).toArray 53 (0, 0))) (hb : zs.length ≤ 1048576) :
    Calls Try.prog 35 #[.slice (some ⟨g, 0, none⟩) zs.length zs.length] w fun e w' => C35 zs w e w' := by
  obtain ⟨i0, hi, hz0, hz1, hz2⟩ := info_parts Try.info53
  have h := AnyE.slices_Clone Try.lays41 i0 (.int .u16 0) 1 2 hi hz0 hz1 hz2 rfl (by decide) Try.sizeOf53 g 0 zs.length zs.length (zs.map (.int .u16)) w (by simp) (by simp only [maxLen]; omega) (by omega)
    (fun j u hu => by rw [Nat.zero_add, cell_of_row w g j _ _ (0, 0) hg]; simpa using hu) (by intro v hv; obtain ⟨n, _, rfl⟩ := List.mem_map.1 hv; rfl)
  refine Calls.mono h ?_
  rintro e w' ⟨v', rfl, hown, hne, hbel⟩
  rcases hown.2 with ⟨rfl, _⟩ | ⟨g', cap, cur, rfl, hge, hh, hle, hml, hcs, htk⟩
  · exact absurd rfl hne
  · refine ⟨g', cap, rfl, hge, ⟨cur, _, hh, by simp; omega, fun i hi => ?_⟩, hbel⟩
    have hi' : i < zs.length := by simpa using hi
    have e1 : (cur.toList.take (zs.length * 1))[i]? = (zs.map (Value.int .u16))[i]? := by rw [htk]
    rw [List.getElem?_take, if_pos (by omega)] at e1
    rw [Nat.zero_add]
    have e2 : cur[i]? = (zs.map (Value.int .u16))[i]? := by rw [← e1]; simp
    rw [e2]
    simp [hi']

theorem sorted_types (zs : List Int) (d' : Array Int) (hp : PermIn 0 zs.toArray.size zs.toArray d') (hs : SortedIn ltInt 0 zs.toArray.size d') (hz : ∀ z ∈ zs, 0 ≤ z ∧ z ≤ 65535) :
    d'.size = zs.length ∧ ∃ T : Nat → Nat, (∀ k, k < zs.length → d'[k]! = (T k : Int)) ∧ (∀ a b, a ≤ b → b < zs.length → T a ≤ T b) ∧ (∀ k, k < zs.length → T k < 65536) ∧ ∀ t, Has T zs.length t ↔ (t : Int) ∈ zs := by
  obtain ⟨h1, _, h3⟩ := hp
  have hsz : d'.size = zs.length := by simpa using h1
  have hperm : d'.toList.Perm zs := by
    have : (d'.extract 0 zs.toArray.size).toList = d'.toList := by simp [← hsz]
    rw [this] at h3
    simpa using h3
  have hget : ∀ k, (hk : k < zs.length) → d'[k]! = d'.toList[k]'(by simpa [hsz] using hk) := fun k hk => by
    rw [getElem!_pos d' k (by omega)]; simp
  have hmem : ∀ k, k < zs.length → d'[k]! ∈ zs := fun k hk => hperm.mem_iff.1 (by rw [hget k hk]; exact List.getElem_mem _)
  refine ⟨hsz, fun k => (d'[k]!).toNat, fun k hk => ?_, fun a b hab hb => ?_, fun k hk => ?_, fun t => ?_⟩
  · have := hz _ (hmem k hk)
    show d'[k]! = (((d'[k]!).toNat : Nat) : Int)
    omega
  · by_cases e : a = b
    · subst e; exact Nat.le_refl _
    · have h4 := hs a b (Nat.zero_le _) (by omega) (by simpa using hb)
      simp only [ltInt, decide_eq_false_iff_not] at h4
      show (d'[a]!).toNat ≤ (d'[b]!).toNat
      omega
  · have := hz _ (hmem k hk)
    show (d'[k]!).toNat < 65536
    omega
  · constructor
    · rintro ⟨k, hk, e⟩
      have h5 := hmem k hk
      have := hz _ h5
      have e2 : (t : Int) = d'[k]! := by have e' : (d'[k]!).toNat = t := e; omega
      rw [e2]; exact h5
    · intro h
      obtain ⟨k, hk, e⟩ := List.getElem_of_mem (hperm.mem_iff.2 h)
      have hk' : k < zs.length := by simpa [hsz] using hk
      refine ⟨k, hk', ?_⟩
      show (d'[k]!).toNat = t
      rw [hget k hk', e]
      omega

def BPost28 (base : Nat) (B : List Value) (zs : List Int) (w : World) (e : Ending) (w' : World) : Prop :=
  ∃ vo p, e = .returned vo ∧ Seg (fun t => (t : Int) ∈ zs) 0 256 p ∧ p.length ≤ 34 * zs.length ∧ w'.ownsRow base 5 1 vo (B ++ bytesV p).length (B ++ bytesV p) ∧ Below w.heap.size w w'

theorem Own.out {base : Nat} {w : World} {v : Value} {xs : List Value} (h : Own base w 5 v xs) (hl : xs.length ≤ maxLen) (M : Nat) : OutRow base M w v xs := by
  rcases h with ⟨rfl, rfl⟩ | ⟨g, rfl, hg, hh⟩
  · exact ⟨World.ownsRow_nil _ _ _ _, .inl fun k hk => by simp [Value.ownBlock] at hk⟩
  · exact ⟨⟨by simp, .inr ⟨g, _, _, rfl, hg, hh, Nat.le_refl _, hl, by simp, by simp⟩⟩, .inr ⟨g, rfl⟩⟩

theorem zero56 (w : World) : (zeroValue 56).run Try.prog w = .ok (.agg (Array.replicate 32 (.int .u8 0))) w := by kernel_rfl

theorem app28_nil (base : Nat) (B : List Value) (v : Value) (w : World) (hB : Own base w 5 v B) (hlB : B.length ≤ 1048576) :
    Calls Try.prog 28 #[v, .slice none 0 0] w fun e w' => BPost28 base B [] w e w' := by
  have HB : Aside (OutRow base w.heap.size w v B) := hB.out (by simp only [maxLen]; omega) _
  clear hB
  go_enter Try.func28, Try.ntmps28
  go_wp2_with (go_at_call 35; refine (clone35_nil _).mono ?_; rintro e w' ⟨rfl, hw⟩; have hw2 := hw.symm; subst hw2; clear hw)
  go_wp2_with (go_at_call 36; refine (sort36_nil _).mono ?_; rintro e w' ⟨rfl, hw⟩; have hw2 := hw.symm; subst hw2; clear hw)
  go_loopg [0, 5] 0 (fun g s0 s5 wr => s0 = v ∧ s5 = .int .i64 0 ∧ Below w.heap.size w wr ∧ OutRow base w.heap.size wr v B)
  case atStart => exact ⟨rfl, rfl, Below.refl _ _, HB.out⟩
  case round =>
    obtain ⟨rfl, rfl, h1, h2⟩ := hrel
    go_wp2
    go_ret
    refine ⟨_, [], rfl, .nil _ _ (by omega) (fun t _ _ => by simp), by simp, ?_, h1⟩
    have := h2.own
    simpa [bytesV] using this

/-- the octets of the window that is being filled -/
def nOf (T : Nat → Nat) (i i' : Nat) : Nat := if i' = i then 0 else T (i' - 1) % 256 / 8 + 1

structure E28 (base M bb : Nat) (w2 wx : World) (v : Value) (xs : List Value) : Prop where
  out : OutRow base M wx v xs
  bel : Below M w2 wx
  ne : v.ownBlock ≠ some bb
  ge : M ≤ bb

theorem E28.set {base M bb : Nat} {w2 wx : World} {v : Value} {xs : List Value} (h : E28 base M bb w2 wx v xs) (j : Nat) (u : Value) : E28 base M bb w2 (wx.setCell ⟨bb, j, none⟩ u) v xs :=
  ⟨⟨h.out.own.kept (row := some bb) ⟨rfl, rfl, rfl, by simp, fun k hk hne => Below.heap_setCell _ _ _ _ (fun e => hne (congrArg some e))⟩ (.inr h.ne), h.out.safe⟩, h.bel.setCell h.ge _, h.ne, h.ge⟩

theorem slice56 (bb n : Nat) (hn : n ≤ 32) (w : World) : (Instr.sliceAt 56 (.pointer (some ⟨bb, 0, none⟩)) none (some (.int .i64 (n : Int))) none).run Try.prog w = .ok (.slice (some ⟨bb, 0, none⟩) n 32) w := by
  have h := run_sliceAt_array_h (P := Try.prog) w 56 ⟨bb, 0, none⟩ (by kernel_rfl) .i64 (n : Int) (by omega) (by
    have : Try.prog.arrayLen 56 = 32 := by kernel_rfl
    rw [this]; omega)
  rw [h]
  have e1 : Try.prog.arrayLen 56 = 32 := by kernel_rfl
  have e2 : Try.prog.elem 56 = 5 := by kernel_rfl
  rw [e1, e2, Try.sizeOf5]
  simp [slicedAt, Addr.add]

theorem cells_win {w : World} {bb n : Nat} {f : Nat → Nat} (h : w.rowIs bb 56 32 (fun j => .int .u8 (f j : Int))) (hn : n ≤ 32) : ∀ j u, (bytesV ((List.range n).map f))[j]? = some u → w.cell? ((⟨bb, 0, none⟩ : Addr).add j) = some u := by
  intro j u hj
  have hlt : j < n := by
    have := (List.getElem?_eq_some_iff.1 hj).1
    simpa [bytesV] using this
  have : u = .int .u8 (f j : Int) := by
    simp [bytesV, hlt] at hj
    exact hj.symm
  subst this
  have e : (⟨bb, 0, none⟩ : Addr).add j = ⟨bb, j, none⟩ := by unfold Addr.add; split <;> simp_all
  rw [e]
  exact h.cell (by omega)

theorem app28 (base : Nat) (B : List Value) (v : Value) (gt : Nat) (zs : List Int) (w : World) (hB : Own base w 5 v B) (hbase : base ≤ w.heap.size) (hlB : B.length ≤ 1048576) (ht : w.heap[gt]? = some (.cells (zs.map (.int .u16)).toArray 53 (0, 0))) (hz : ∀ z ∈ zs, 0 ≤ z ∧ z ≤ 65535) (hlz : zs.length ≤ 524288) :
    Calls Try.prog 28 #[v, .slice (some ⟨gt, 0, none⟩) zs.length zs.length] w fun e w' => BPost28 base B zs w e w' := by
  have HB : Aside (Own base w 5 v B) := hB
  have c35 := clone35 gt zs w ht (by omega)
  clear hB ht
  go_enter Try.func28, Try.ntmps28
  go_wp2_with (go_at_call 35; refine c35.mono ?_; rintro e w1 ⟨g, cap, rfl, hg, hr1, hb1⟩)
  have c36 := sort36 g 0 cap zs.length zs.toArray w1 (by simp) hr1 (by simp; omega)
  have H1 : Aside (Own base w1 5 v B ∧ Below w.heap.size w w1) := ⟨HB.out.below (B := 0) hb1, hb1⟩
  clear hr1 hb1 c35
  go_wp2_with (go_at_call 36; refine c36.mono ?_; rintro e w2 ⟨rfl, d', hp, hs, hr2, ho2⟩)
  obtain ⟨hds, T, hT, hmono, hT16, hhas⟩ := sorted_types zs d' hp hs hz
  have hgz : g ≠ w2.heap.size := by have := hr2.lt; omega
  obtain ⟨N, hN⟩ : ∃ N, N = zs.length := ⟨_, rfl⟩
  rw [← hN] at hT hmono hT16 hhas hds hlz ⊢
  have hcT : ∀ k, k < N → w2.cell? ⟨g, k, none⟩ = some (.int .u16 (T k : Int)) := fun k hk => by
    have := hr2.cell (i := k) (by omega)
    rw [Nat.zero_add] at this
    rw [this, hT k hk]
  have hg2 : g < w2.heap.size := hr2.lt
  have HT : Aside (∀ a b, a ≤ b → b < N → T a ≤ T b) := hmono
  have HH : Aside ((∀ t, Has T N t ↔ (t : Int) ∈ zs) ∧ N = zs.length) := ⟨hhas, hN⟩
  have HW : Aside (Own base w2 5 v B ∧ Below w.heap.size w w2) := ⟨by
    rcases HB.out with h | ⟨gb, rfl, hgb, hh⟩
    · exact .inl h
    · have h4 := (Array.getElem?_eq_some_iff.1 hh).1
      have h5 := H1.out.2.size
      exact .inr ⟨gb, rfl, hgb, (ho2.block gb (by omega) (by omega)).trans ((H1.out.2.block gb h4).trans hh)⟩, Only.below H1.out.2 ho2 hg H1.out.2.size⟩
  clear hmono hhas hN hp hs hr2 ho2 H1 hT HB c36 hz hds
  have z56 : ∀ w, (zeroValue 56).run Try.prog w = .ok (.agg (Array.replicate 32 (.int .u8 0))) w := zero56
  go_loopg [0, 5] N (fun gm s0 s5 wr => ∃ (i : Nat) (p : List Nat), i ≤ N ∧ gm = N - i ∧ s5 = .int .i64 i ∧ Out T N i p ∧ OutRow base w2.heap.size wr s0 (B ++ bytesV p) ∧ Below w2.heap.size w2 wr)
  case atStart => exact ⟨0, [], Nat.zero_le _, rfl, rfl, Out.start T N, by simpa [bytesV] using HW.out.1.out (by simp only [maxLen]; omega) _, Below.refl _ _⟩
  case round =>
    obtain ⟨i, p, hi, rfl, rfl, hOut, hrow, hbel⟩ := hrel
    rename_i s0
    have HO : Aside (Out T N i p ∧ OutRow base w2.heap.size wr u0 (B ++ bytesV p) ∧ Below w2.heap.size w2 wr) := ⟨hOut, hrow, hbel⟩
    by_cases hlt : i < N
    · have g0 : wr.cell? ⟨g, i, none⟩ = some (.int .u16 (T i : Int)) := by
        have := hcT i hlt
        rw [← this]
        exact World.cell?_of_block (hbel.block g hg2)
      have hbb0 : ∀ k, u0.ownBlock = some k → k < wr.heap.size := fun k hk => (hrow.own.lt k hk).2
      have hE : E28 base w2.heap.size wr.heap.size w2 (wr.alloc (Obj.cells (Array.replicate 32 (Value.int IntKind.u8 0)) 56)) u0 (B ++ bytesV p) :=
        ⟨hrow.kept ((Below.refl _ _).alloc (Nat.le_refl _) _), hbel.alloc hbel.size _, fun e => by have := hbb0 _ e; omega, hbel.size⟩
      have hR : (wr.alloc (Obj.cells (Array.replicate 32 (Value.int IntKind.u8 0)) 56)).rowIs wr.heap.size 56 32 (fun _ => .int .u8 0) := by
        have := World.rowIs_alloc wr (Array.replicate 32 (.int .u8 0)) 56 (fun _ => .int .u8 0) (fun i hi => by simp at hi; simp [hi])
        simpa using this
      have HE : Aside (E28 base w2.heap.size wr.heap.size w2 (wr.alloc (Obj.cells (Array.replicate 32 (Value.int IntKind.u8 0)) 56)) u0 (B ++ bytesV p) ∧ (wr.alloc (Obj.cells (Array.replicate 32 (Value.int IntKind.u8 0)) 56)).rowIs wr.heap.size 56 32 (fun _ => .int .u8 0)) := ⟨hE, hR⟩
      have hTi := hT16 i hlt
      clear hOut hrow hbel hE hR hbb0
      go_wp2
      clear g0
      have HO2 : Aside (Out T N i p) := HO.out.1
      clear HO
      generalize wr.alloc (Obj.cells (Array.replicate 32 (Value.int IntKind.u8 0)) 56) = W1 at HE ⊢
      generalize wr.heap.size = bb at HE ⊢
      go_loopg [5, 8] (N - i) (fun gm s5 s8 wx => ∃ (i' : Nat) (f : Nat → Nat), gm = N - i' ∧ s5 = .int .i64 i' ∧ s8 = .int .i64 (nOf T i i' : Nat) ∧ Inn T N i i' (T i / 256) f ∧ wx.rowIs bb 56 32 (fun j => .int .u8 (f j : Int)) ∧ E28 base w2.heap.size bb w2 wx u0 (B ++ bytesV p))
      case atStart => exact ⟨i, fun _ => 0, rfl, rfl, by simp [nOf], Inn.start T N i _ hi, HE.out.2, HE.out.1⟩
      case round =>
        clear HE
        obtain ⟨i', f, rfl, rfl, rfl, hInn, hR, hE⟩ := hrel
        have hi1 := hInn.le1
        have hi0 := hInn.le0
        by_cases hlt' : i' < N
        · have g1 : wr.cell? ⟨g, i', none⟩ = some (.int .u16 (T i' : Int)) := by
            rw [← hcT i' hlt']
            exact World.cell?_of_block (hE.bel.block g hg2)
          have hT' := hT16 i' hlt'
          by_cases hw : T i' / 256 = T i / 256
          · have hq : (((T i' : Nat) : Int) / 256 == ((T i : Nat) : Int) / 256) = true := by simp; omega
            have HI : Aside (Inn T N i i' (T i / 256) f ∧ wr.rowIs bb 56 32 (fun j => .int .u8 (f j : Int)) ∧ E28 base w2.heap.size bb w2 wr u0 (B ++ bytesV p) ∧ T i' / 256 = T i / 256) := ⟨hInn, hR, hE, hw⟩
            obtain ⟨L, hL⟩ : ∃ L, L = T i' % 256 := ⟨_, rfl⟩
            obtain ⟨J, hJ⟩ : ∃ J, J = L / 8 := ⟨_, rfl⟩
            obtain ⟨R, hRr⟩ : ∃ R, R = L % 8 := ⟨_, rfl⟩
            have e1 : bits .and .u16 ((T i' : Nat) : Int) 255 = (L : Int) := by rw [hL]; exact bits16_low _ hT'
            have e2 : (L : Int) / 8 = (J : Int) := by omega
            have e3 : (L : Int) % 8 = (R : Int) := by omega
            have hJ32 : J < 32 := by omega
            have hR8 : R < 8 := by omega
            have g2 : wr.cell? ⟨bb, J, none⟩ = some (.int .u8 (f J : Int)) := hR.cell hJ32
            have g3 : wr.frozen? ⟨bb, J, none⟩ = false := hR.frozen J
            have HL : Aside (L = T i' % 256 ∧ J = L / 8 ∧ R = L % 8) := ⟨hL, hJ, hRr⟩
            have hL256 : L < 256 := by omega
            clear hInn hR hE hw hL hJ hRr
            go_wp2
            go_roundg (N - (i' + 1))
            case rel =>
              go_light
              have hv : bits .or .u8 (f J : Int) ((128 : Int) / (2 : Int) ^ R) = ((f J ||| 128 >>> R : Nat) : Int) := by rw [shr128 R hR8]; exact bits8_or _ _ (HI.out.1.lt J) (shr128_lt R)
              have hst := HI.out.1.step hlt' HI.out.2.2.2
              obtain ⟨q1, q2, q3⟩ := HL.out
              rw [← q1, ← q2, ← q3] at hst
              refine ⟨i' + 1, _, rfl, by go_num, ?_, hst, ?_, HI.out.2.2.1.set _ _⟩
              · unfold nOf
                rw [if_neg (by omega), Nat.add_sub_cancel, ← q1, ← q2]
                rfl
              · rw [hv]
                refine (HI.out.2.1.set J _).congr fun j _ => ?_
                by_cases e : j = J
                · subst e; simp
                · simp [e]
            case measure => go_light; omega
          · have hq : (((T i' : Nat) : Int) / 256 == ((T i : Nat) : Int) / 256) = false := by simp; omega
            have HII : i < i' := by
              rcases Nat.lt_or_eq_of_le hi0 with h | h
              · exact h
              · subst h; exact absurd rfl hw
            have HI : Aside (Inn T N i i' (T i / 256) f ∧ wr.rowIs bb 56 32 (fun j => .int .u8 (f j : Int)) ∧ E28 base w2.heap.size bb w2 wr u0 (B ++ bytesV p) ∧ T i' / 256 ≠ T i / 256) := ⟨hInn, hR, hE, hw⟩
            have hii : i < i' := HII
            have hT1 := hT16 (i' - 1) (by omega)
            obtain ⟨n, hn⟩ : ∃ n, n = nOf T i i' := ⟨_, rfl⟩
            have hn2 : n = T (i' - 1) % 256 / 8 + 1 := by rw [hn]; unfold nOf; rw [if_neg (by omega)]
            rw [← hn]
            have hn32 : 1 ≤ n ∧ n ≤ 32 := by omega
            have HN : Aside (n = T (i' - 1) % 256 / 8 + 1) := hn2
            have HLEN : Aside ((B ++ bytesV p).length + 2 ≤ 100000000 ∧ base ≤ w2.heap.size ∧ w2.heap.size ≤ (wr.alloc (Obj.cells #[.int .u8 (((T i : Nat) : Int) / 256), .int .u8 (n : Int)] 5)).heap.size) := by
              have h1 := HO2.out.len
              have h2 := hE.bel.size
              have h3 := HW.out.2.size
              refine ⟨by simp [bytesV]; omega, by omega, by simp; omega⟩
            have HLEN2 : Aside (((B ++ bytesV p) ++ [Value.int .u8 (((T i : Nat) : Int) / 256), .int .u8 (n : Int)]).length + n ≤ 100000000) := by
              have h1 := HO2.out.len
              show _ ≤ _
              simp [bytesV]; omega
            clear hInn hR hE hw hn hn2
            go_upto_region 14 with (at_builtin; refine wpList_append_out _ rfl (.tmp 56) (.tmp 61) rfl base w2.heap.size _ _ rfl (HI.out.2.2.1.out.kept ((Below.refl _ _).alloc (Nat.le_refl _) _)) ⟨wr.heap.size, 0, none⟩ 2 2 [.int .u8 (((T i : Nat) : Int) / 256), .int .u8 (n : Int)] rfl rfl (cell_two_new' _ _ _ _) (by simp [Value.oneCell']) (by omega) HLEN.out.1 HLEN.out.2.1 HLEN.out.2.2 ?_; intro v1 w1 H1)
            have hbsz : w2.heap.size ≤ w1.heap.size := Nat.le_trans HLEN.out.2.2 (by have := H1.out.2.2.size; simpa using this)
            have R1 : Aside (w1.rowIs bb 56 32 (fun j => .int .u8 (f j : Int)) ∧ Below w2.heap.size w2 w1) := ⟨(HI.out.2.1.alloc _).of_block (H1.out.2.2.block bb (HI.out.2.1.alloc _).lt (fun e => HI.out.2.2.1.ne e.symm)), (HI.out.2.2.1.bel.alloc HI.out.2.2.1.bel.size _).trans H1.out.2.1⟩
            have hsl := slice56 bb n hn32.2
            go_wp2_with (at_builtin; refine wpList_append_out _ rfl (.tmp 63) (.tmp 65) rfl base w2.heap.size _ _ rfl H1.out.1 ⟨bb, 0, none⟩ n 32 (bytesV ((List.range n).map f)) rfl (by simp [bytesV]) (cells_win R1.out.1 hn32.2) (by intro v hv; obtain ⟨n, _, rfl⟩ := List.mem_map.1 hv; rfl) (by omega) (HLEN2.out) HLEN.out.2.1 hbsz ?_; intro v2 w3 H2)
            go_roundg (N - i')
            case rel =>
              go_light
              have hst := HO2.out.step HI.out.1 hii HT.out hT16 (.inr HI.out.2.2.2)
              rw [← HN.out] at hst
              refine ⟨i', _, hi1, rfl, rfl, hst, ?_, R1.out.2.trans H2.out.2.1⟩
              have := H2.out.1
              simpa [bytesV] using this
            case measure => go_light; omega
        · obtain rfl : i' = N := by omega
          have hw : True := trivial
          have HI : Aside (Inn T i' i i' (T i / 256) f ∧ wr.rowIs bb 56 32 (fun j => .int .u8 (f j : Int)) ∧ E28 base w2.heap.size bb w2 wr u0 (B ++ bytesV p)) := ⟨hInn, hR, hE⟩
          have hii : i < i' := hlt
          have hT1 := hT16 (i' - 1) (by omega)
          obtain ⟨n, hn⟩ : ∃ n, n = nOf T i i' := ⟨_, rfl⟩
          have hn2 : n = T (i' - 1) % 256 / 8 + 1 := by rw [hn]; unfold nOf; rw [if_neg (by omega)]
          rw [← hn]
          have hn32 : 1 ≤ n ∧ n ≤ 32 := by omega
          have HN : Aside (n = T (i' - 1) % 256 / 8 + 1) := hn2
          have HLEN : Aside ((B ++ bytesV p).length + 2 ≤ 100000000 ∧ base ≤ w2.heap.size ∧ w2.heap.size ≤ (wr.alloc (Obj.cells #[.int .u8 (((T i : Nat) : Int) / 256), .int .u8 (n : Int)] 5)).heap.size) := by
            have h1 := HO2.out.len
            have h2 := hE.bel.size
            have h3 := HW.out.2.size
            refine ⟨by simp [bytesV]; omega, by omega, by simp; omega⟩
          have HLEN2 : Aside (((B ++ bytesV p) ++ [Value.int .u8 (((T i : Nat) : Int) / 256), .int .u8 (n : Int)]).length + n ≤ 100000000) := by
            have h1 := HO2.out.len
            show _ ≤ _
            simp [bytesV]; omega
          clear hInn hR hE hw hn hn2
          go_upto_region 14 with (at_builtin; refine wpList_append_out _ rfl (.tmp 56) (.tmp 61) rfl base w2.heap.size _ _ rfl (HI.out.2.2.out.kept ((Below.refl _ _).alloc (Nat.le_refl _) _)) ⟨wr.heap.size, 0, none⟩ 2 2 [.int .u8 (((T i : Nat) : Int) / 256), .int .u8 (n : Int)] rfl rfl (cell_two_new' _ _ _ _) (by simp [Value.oneCell']) (by omega) HLEN.out.1 HLEN.out.2.1 HLEN.out.2.2 ?_; intro v1 w1 H1)
          have hbsz : w2.heap.size ≤ w1.heap.size := Nat.le_trans HLEN.out.2.2 (by have := H1.out.2.2.size; simpa using this)
          have R1 : Aside (w1.rowIs bb 56 32 (fun j => .int .u8 (f j : Int)) ∧ Below w2.heap.size w2 w1) := ⟨(HI.out.2.1.alloc _).of_block (H1.out.2.2.block bb (HI.out.2.1.alloc _).lt (fun e => HI.out.2.2.ne e.symm)), (HI.out.2.2.bel.alloc HI.out.2.2.bel.size _).trans H1.out.2.1⟩
          have hsl := slice56 bb n hn32.2
          go_wp2_with (at_builtin; refine wpList_append_out _ rfl (.tmp 63) (.tmp 65) rfl base w2.heap.size _ _ rfl H1.out.1 ⟨bb, 0, none⟩ n 32 (bytesV ((List.range n).map f)) rfl (by simp [bytesV]) (cells_win R1.out.1 hn32.2) (by intro v hv; obtain ⟨n, _, rfl⟩ := List.mem_map.1 hv; rfl) (by omega) (HLEN2.out) HLEN.out.2.1 hbsz ?_; intro v2 w3 H2)
          go_roundg (i' - i')
          case rel =>
            go_light
            have hst := HO2.out.step HI.out.1 hii HT.out hT16 (.inl rfl)
            rw [← HN.out] at hst
            refine ⟨i', _, hi1, rfl, rfl, hst, ?_, R1.out.2.trans H2.out.2.1⟩
            have := H2.out.1
            simpa [bytesV] using this
          case measure => go_light; omega
    · obtain rfl : i = N := by omega
      go_wp2
      go_ret
      refine ⟨u0, p, rfl, ?_, by rw [← HH.out.2]; exact HO.out.1.len, HO.out.2.1.own, HW.out.2.trans (HO.out.2.2.mono HW.out.2.size)⟩
      have := HO.out.1.fin
      have e : Has T i = fun t : Nat => (t : Int) ∈ zs := funext fun t => propext (HH.out.1 t)
      rw [e] at this
      exact this
end Go.Proofs.Qxb6603969a
