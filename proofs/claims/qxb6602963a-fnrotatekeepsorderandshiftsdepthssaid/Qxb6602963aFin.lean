import Derived.Test.Qxb6602963aSplay
import Derived.Test.Qxb6602963aRotW
namespace Go.Proofs.Qxb6602963a
open Go.RowKit
set_option linter.unusedVariables false

section
variable {l r u : Nat → Nat} {L x p g : Nat}

open Classical in
theorem moves_ex (Dn Rs : Nat → Prop) (hdis : ∀ v, Dn v → Rs v → False) : ∃ f : Nat × Nat → Nat × Nat, (∀ v e, Dn v → f (v, e + 1) = (v, e)) ∧ (∀ v e, Rs v → f (v, e) = (v, e + 1)) ∧ (∀ v e, ¬ Dn v → ¬ Rs v → f (v, e) = (v, e)) ∧ ∀ y, (f y).1 = y.1 := by
  refine ⟨fun y => if Dn y.1 then (y.1, y.2 - 1) else if Rs y.1 then (y.1, y.2 + 1) else y, ?_, ?_, ?_, ?_⟩
  · intro v e h; simp [h]
  · intro v e h
    have : ¬ Dn v := fun k => hdis v k h
    simp [h, this]
  · intro v e h1 h2; simp [h1, h2]
  · intro y
    by_cases h1 : Dn y.1
    · simp [h1]
    · by_cases h2 : Rs y.1
      · simp [h1, h2]
      · simp [h1, h2]

/-- x, the left kid of p: what falls and what rises has nothing in common -/
theorem dis_l (h : OK l r u L) (F : Facts l r u L x p g) (hx : l p = x) (v : Nat) : (v = x ∨ (l x ≠ 0 ∧ Sub l r u L (l x) v)) → (v = p ∨ (r p ≠ 0 ∧ Sub l r u L (r p) v)) → False := by
  have hx0 := F.vx.1
  have lp0 : l p ≠ 0 := by rw [hx]; omega
  have subx : ∀ v, Sub l r u L x v → Sub l r u L (l p) v := fun v k => by rw [hx]; exact k
  rintro (rfl | ⟨h1, k1⟩) (rfl | ⟨h2, k2⟩)
  · exact F.xp rfl
  · exact sub_apart h F.vp lp0 h2 (subx _ ⟨0, rfl⟩) k2
  · exact sub_l_self h F.vp lp0 (subx _ (sub_of_l h F.vx h1 k1))
  · exact sub_apart h F.vp lp0 h2 (subx _ (sub_of_l h F.vx h1 k1)) k2

/-- what falls is a kid -/
theorem kid_of_dn (h : OK l r u L) (hx : Vx L x) (kx : Kid l r u x) {v : Nat} (hd : v = x ∨ (l x ≠ 0 ∧ Sub l r u L (l x) v)) : Kid l r u v := by
  rcases hd with rfl | ⟨h1, m, k⟩
  · exact kx
  · match m, k with
    | 0, k => have : v = l x := k; rw [this]; exact (h.kid_l hx h1).2.1
    | m + 1, k => exact k.2.1
end

/-- THE NUMBERS BEFORE AND BEHIND: from the law of the in-orders -/
theorem final {l r u l' r' u' : Nat → Nat} {L : Nat} (h : OK l r u L) {T T' : Nat → Nat → List (Nat × Nat)} (t : Trav l r L T) {f : Nat × Nat → Nat × Nat} (hf1 : ∀ y, (f y).1 = y.1) {zu zu' : Nat → Int} (hzu : ∀ i, 0 < i → i < L → zu i = (u i : Int)) (hzu' : ∀ i, 0 < i → i < L → zu' i = (u' i : Int))
    (law : ∀ a, Vx L a → ¬ Kid l r u a → ∃ a', Vx L a' ∧ ¬ Kid l' r' u' a' ∧ u' a' = u a ∧ T' 0 a' = (T 0 a).map f)
    {F0 P0 D0 Q0 F1 P1 D1 Q1 : Nat → Int} (d0 : Done l r u L T zu F0 P0 D0 Q0 L) (d1 : Done l' r' u' L T' zu' F1 P1 D1 Q1 L) {v : Nat} (hv : Vx L v) :
    F1 v = F0 v ∧ P1 v = P0 v ∧ Q1 v = Q0 v ∧ ∃ e : Nat, D0 v = e ∧ D1 v = (f (v, e)).2 ∧ (Kid l r u v → 0 < e) ∧ e < L := by
  obtain ⟨a, m, ha, hka, k⟩ := h.head v hv
  have hm : (v, m) ∈ T 0 a := (t.mem_iff h ha.2).2 ⟨hv, m, by omega, k⟩
  obtain ⟨i, hi⟩ := List.mem_iff_getElem?.1 hm
  obtain ⟨hlt, _⟩ := List.getElem?_eq_some_iff.1 hi
  obtain ⟨f0, p0, dd0, q0⟩ := d0 a ha ha.2 hka i v m hlt hi
  obtain ⟨a', ha', hka', hu, hT⟩ := law a ha hka
  have hi' : (T' 0 a')[i]? = some (v, (f (v, m)).2) := by
    rw [hT, List.getElem?_map, hi]
    have := hf1 (v, m)
    simp only [Option.map_some]
    congr 1
    exact Prod.ext this rfl
  have hlt' : i < (T' 0 a').length := by rw [hT, List.length_map]; exact hlt
  obtain ⟨f1, p1, dd1, q1⟩ := d1 a' ha' ha'.2 hka' i v _ hlt' hi'
  have hlead : lead (T' 0 a') = lead (T 0 a) := by
    rw [hT]
    match hTa : T 0 a with
    | [] => rw [hTa] at hlt; simp at hlt
    | y :: ys => simp only [lead, List.map_cons, List.headD_cons]; exact hf1 y
  refine ⟨by rw [f0, f1, hlead], by rw [p0, p1], by rw [q0, q1, hzu a ha.1 ha.2, hzu' a' ha'.1 ha'.2, hu], m, dd0, dd1, fun kv => ?_, ?_⟩
  · match m, k with
    | 0, k => have e : v = a := k; rw [e] at kv; exact absurd kv hka
    | m + 1, _ => omega
  · have h1 := t.depth h a ha.2 0 v m hm
    have h2 := vlen h t ha.2
    omega

/-- numbers that are vertices -/
theorem nat_eq {z : Nat → Int} {i : Nat} (h : 0 ≤ z i) : z i = (nat z i : Int) := by simp only [nat]; omega

/-- THE ROTATED ARRAYS -/
structure Rotated (L : Nat) (zl zr zu zl' zr' zu' : Nat → Int) (x p : Nat) : Prop where
  good : Good L L L zl' zr' zu'
  z0 : zl' 0 = zl 0 ∧ zr' 0 = zr 0 ∧ zu' 0 = zu 0
  left : zl p = x → ∃ g, RotL (nat zl) (nat zr) (nat zu) (nat zl') (nat zr') (nat zu') x p g ∧ Facts (nat zl) (nat zr) (nat zu) L x p g
  right : zl p ≠ x → ∃ g, RotL (nat zr) (nat zl) (nat zu) (nat zr') (nat zl') (nat zu') x p g ∧ Facts (nat zr) (nat zl) (nat zu) L x p g

theorem nat_upd (z : Nat → Int) (i : Nat) (v : Int) (j : Nat) : nat (upd z i v) j = if j = i then v.toNat else nat z j := by
  simp only [nat, upd]
  by_cases e : j = i
  · simp [e]
  · simp [e]

/-- the left case, by the two steps -/
theorem rot_l {L : Nat} {zl zr zu zl1 zr1 : Nat → Int} {x p g : Nat} (hg : Good L L L zl zr zu) (hx : Vx L x) (hp : 0 < p) (ex : zu x = p) (ep : zu p = g) (hl : zl p = x) (s1 : Step1 zl zr zu x p g zl1 zr1) (hgx : g ≠ x) (hgp : g ≠ p) :
    RotL (nat zl) (nat zr) (nat zu) (nat (upd zl1 p (zr1 x))) (nat (upd zr1 x p)) (nat (upd (upC (upd zu x g) (zr1 x) p) p x)) x p g := by
  have ok := hg.ok
  have pL : p < L := by have := hg.rng x hx.1 hx.2; omega
  have hvp : Vx L p := ⟨hp, pL⟩
  have hxp : x ≠ p := by
    intro e
    have := ok.up_ne hx (by simp only [nat]; omega)
    apply this
    simp only [nat]; omega
  have hB := headB_iff hg.rng hvp
  have eg : nat zu p = g := by simp only [nat]; omega
  have zx : zr1 x = zr x := by
    rcases s1 with ⟨_, _, rfl⟩ | ⟨_, _, _, rfl⟩ | ⟨_, _, _, rfl⟩
    · rfl
    · rfl
    · exact upd_other _ _ _ _ (fun e => hgx e.symm)
  have rxr := (hg.rng x hx.1 hx.2).2.1
  have ecx : (zr1 x).toNat = nat zr x := by rw [zx]; rfl
  have gk : Kid (nat zl) (nat zr) (nat zu) p → 0 < g ∧ g < L := fun k => ⟨by have := k.1; rw [eg] at this; omega, by have := ok.bu p hvp; rw [eg] at this; exact this⟩
  have lg : Kid (nat zl) (nat zr) (nat zu) p → (nat zl g = p ↔ zl g = p) := fun k => by
    have := hg.rng g (gk k).1 (gk k).2
    simp only [nat]; omega
  refine ⟨by simp only [nat]; omega, eg, by simp only [nat]; omega, ?_, ?_, ?_, ?_, ?_, ?_, ?_, ?_, ?_, ?_⟩
  · rw [nat_upd, if_pos rfl, ecx]
  · intro k e
    rw [nat_upd, if_neg hgp]
    rcases s1 with ⟨hb, e2, e3⟩ | ⟨hb, e1, e2, e3⟩ | ⟨hb, e1, e2, e3⟩
    · exact absurd k (hB.1 hb)
    · rw [e2, nat_upd, if_pos rfl]; simp
    · exact absurd ((lg k).1 e) e1
  · intro v hv hn
    rw [nat_upd, if_neg hv]
    rcases s1 with ⟨hb, e2, e3⟩ | ⟨hb, e1, e2, e3⟩ | ⟨hb, e1, e2, e3⟩
    · rw [e2]
    · rw [e2, nat_upd, if_neg]
      intro e
      have k : Kid (nat zl) (nat zr) (nat zu) p := by
        by_cases k : Kid (nat zl) (nat zr) (nat zu) p
        · exact k
        · rw [hB.2 k] at hb; cases hb
      exact hn ⟨k, (lg k).2 e1, e⟩
    · rw [e2]
  · rw [nat_upd, if_pos rfl]; simp
  · intro k e
    rw [nat_upd, if_neg hgx]
    rcases s1 with ⟨hb, e2, e3⟩ | ⟨hb, e1, e2, e3⟩ | ⟨hb, e1, e2, e3⟩
    · exact absurd k (hB.1 hb)
    · exact absurd ((lg k).2 e1) e
    · rw [e3, nat_upd, if_pos rfl]; simp
  · intro v hv hn
    rw [nat_upd, if_neg hv]
    rcases s1 with ⟨hb, e2, e3⟩ | ⟨hb, e1, e2, e3⟩ | ⟨hb, e1, e2, e3⟩
    · rw [e3]
    · rw [e3]
    · rw [e3, nat_upd, if_neg]
      intro e
      have k : Kid (nat zl) (nat zr) (nat zu) p := by
        by_cases k : Kid (nat zl) (nat zr) (nat zu) p
        · exact k
        · rw [hB.2 k] at hb; cases hb
      exact hn ⟨k, fun e2 => e1 ((lg k).1 e2), e⟩
  · rw [nat_upd, if_pos rfl]; simp
  · rw [nat_upd, if_neg hxp]
    simp only [upC]
    by_cases hc : zr1 x = 0
    · rw [if_pos hc, nat_upd, if_pos rfl]; simp
    · rw [if_neg hc, nat_upd, if_neg, nat_upd, if_pos rfl]
      · simp
      · rw [ecx]
        intro e
        have hc2 : nat zr x ≠ 0 := by have := hx.1; omega
        have := ok.ur x hx hc2
        rw [← e] at this
        simp only [nat] at this; omega
  · intro hc
    have hc1 : zr1 x ≠ 0 := by rw [zx]; simp only [nat] at hc; omega
    have hcp : nat zr x ≠ p := by
      intro e
      have := ok.ur x hx hc
      rw [e, eg] at this
      exact hgx this
    rw [nat_upd, if_neg hcp]
    simp only [upC]
    rw [if_neg hc1, nat_upd, if_pos ecx.symm]; simp
  · intro v h1 h2 h3
    rw [nat_upd, if_neg h1]
    simp only [upC]
    by_cases hc : zr1 x = 0
    · rw [if_pos hc, nat_upd, if_neg h2]
    · rw [if_neg hc, nat_upd, if_neg, nat_upd, if_neg h2]
      rw [ecx]
      intro e
      exact h3 ⟨by rw [zx] at hc; simp only [nat]; omega, e⟩

theorem headB_mirror (zl zr zu : Nat → Int) (v : Nat) : headB zr zl zu v = headB zl zr zu v := by
  simp only [headB, Bool.and_comm]

theorem Good.mirror {L : Nat} {zl zr zu : Nat → Int} (h : Good L L L zl zr zu) : Good L L L zr zl zu :=
  ⟨h.pos, rfl, rfl, fun i h0 h1 => ⟨(h.rng i h0 h1).2.1, (h.rng i h0 h1).1, (h.rng i h0 h1).2.2⟩,
    fun i h0 h1 => ⟨(h.kids i h0 h1).2.1, (h.kids i h0 h1).1, fun hr e => by
      by_cases hl : zl i = 0
      · rw [hl] at e; exact hr e
      · exact (h.kids i h0 h1).2.2 hl e.symm⟩, h.acy⟩

theorem headB_pos {zl zr zu : Nat → Int} {p g : Nat} (ep : zu p = g) (hb : headB zl zr zu p = false) : 0 < g ∧ (zl g = p ∨ zr g = p) := by
  simp only [headB, Bool.or_eq_false_iff, beq_eq_false_iff_ne, ne_eq, Bool.and_eq_false_iff, bne_eq_false_iff_eq] at hb
  rw [ep] at hb
  obtain ⟨h1, h2⟩ := hb
  simp only [Int.toNat_natCast] at h2
  exact ⟨by omega, h2⟩

theorem step1_mirror {L : Nat} {zl zr zu zl1 zr1 : Nat → Int} {x p g : Nat} (hg : Good L L L zl zr zu) (hp : Vx L p) (ep : zu p = g) (s1 : Step1 zl zr zu x p g zl1 zr1) : Step1 zr zl zu x p g zr1 zl1 := by
  have gL : g < L := by have := hg.rng p hp.1 hp.2; omega
  rcases s1 with ⟨hb, e2, e3⟩ | ⟨hb, e1, e2, e3⟩ | ⟨hb, e1, e2, e3⟩
  · exact .inl ⟨by rw [headB_mirror]; exact hb, e3, e2⟩
  · have h1 := headB_pos ep hb
    refine .inr (.inr ⟨by rw [headB_mirror]; exact hb, fun e => ?_, e3, e2⟩)
    exact (hg.kids g h1.1 gL).2.2 (by rw [e1]; have := hp.1; omega) (by rw [e1, e])
  · have h1 := headB_pos ep hb
    exact .inr (.inl ⟨by rw [headB_mirror]; exact hb, h1.2.resolve_left e1, e3, e2⟩)

theorem upd_nn {L : Nat} {z : Nat → Int} {k : Nat} {v : Int} (h : ∀ i, 0 < i → i < L → 0 ≤ z i) (hv : 0 ≤ v) : ∀ i, 0 < i → i < L → 0 ≤ upd z k v i := by
  intro i h0 h1
  simp only [upd]
  by_cases e : i = k
  · rw [if_pos e]; exact hv
  · rw [if_neg e]; exact h i h0 h1

theorem good_of {L : Nat} {zl' zr' zu' : Nat → Int} (hL : 1 ≤ L) (ok : OK (nat zl') (nat zr') (nat zu') L) (nl : ∀ i, 0 < i → i < L → 0 ≤ zl' i) (nr : ∀ i, 0 < i → i < L → 0 ≤ zr' i) (nu : ∀ i, 0 < i → i < L → 0 ≤ zu' i) : Good L L L zl' zr' zu' := by
  refine ⟨hL, rfl, rfl, ?_, ?_, ok.acy⟩
  · intro i h0 h1
    have a := ok.bl i ⟨h0, h1⟩
    have b := ok.br i ⟨h0, h1⟩
    have c := ok.bu i ⟨h0, h1⟩
    have a' := nl i h0 h1
    have b' := nr i h0 h1
    have c' := nu i h0 h1
    simp only [nat] at a b c
    omega
  · intro i h0 h1
    have a' := nl i h0 h1
    have b' := nr i h0 h1
    refine ⟨fun hl => ?_, fun hr => ?_, fun hl e => ?_⟩
    · have h2 : nat zl' i ≠ 0 := by simp only [nat]; omega
      have h3 := ok.ul i ⟨h0, h1⟩ h2
      have h4 := nu (nat zl' i) (by omega) (ok.bl i ⟨h0, h1⟩)
      simp only [nat] at h3 h4
      omega
    · have h2 : nat zr' i ≠ 0 := by simp only [nat]; omega
      have h3 := ok.ur i ⟨h0, h1⟩ h2
      have h4 := nu (nat zr' i) (by omega) (ok.br i ⟨h0, h1⟩)
      simp only [nat] at h3 h4
      omega
    · have h2 : nat zl' i ≠ 0 := by simp only [nat]; omega
      exact ok.ne i ⟨h0, h1⟩ h2 (by simp only [nat]; rw [e])

theorem rotated {L : Nat} {zl zr zu zl1 zr1 zl' zr' zu' : Nat → Int} {x p g : Nat} (hg : Good L L L zl zr zu) (hx : Vx L x) (hp : 0 < p) (ex : zu x = p) (ep : zu p = g) (kx : zl p = x ∨ zr p = x) (s1 : Step1 zl zr zu x p g zl1 zr1) (s2 : Step2 zl1 zr1 zu x p g zl' zr' zu') (hgx : g ≠ x) (hgp : g ≠ p) :
    Rotated L zl zr zu zl' zr' zu' x p := by
  have ok := hg.ok
  have pL : p < L := by have := hg.rng x hx.1 hx.2; omega
  have hvp : Vx L p := ⟨hp, pL⟩
  have hx0 := hx.1
  have nl := fun i h0 h1 => (hg.rng i h0 h1).1.1
  have nr := fun i h0 h1 => (hg.rng i h0 h1).2.1.1
  have nu := fun i h0 h1 => (hg.rng i h0 h1).2.2.1
  have gpos : headB zl zr zu p = false → 0 < g := fun hb => (headB_pos ep hb).1
  -- the first step's arrays
  have nl1 : ∀ i, 0 < i → i < L → 0 ≤ zl1 i := by
    rcases s1 with ⟨hb, e2, e3⟩ | ⟨hb, e1, e2, e3⟩ | ⟨hb, e1, e2, e3⟩
    · rw [e2]; exact nl
    · rw [e2]; exact upd_nn nl (by omega)
    · rw [e2]; exact nl
  have nr1 : ∀ i, 0 < i → i < L → 0 ≤ zr1 i := by
    rcases s1 with ⟨hb, e2, e3⟩ | ⟨hb, e1, e2, e3⟩ | ⟨hb, e1, e2, e3⟩
    · rw [e3]; exact nr
    · rw [e3]; exact nr
    · rw [e3]; exact upd_nn nr (by omega)
  have z1 : zl1 0 = zl 0 ∧ zr1 0 = zr 0 := by
    rcases s1 with ⟨hb, e2, e3⟩ | ⟨hb, e1, e2, e3⟩ | ⟨hb, e1, e2, e3⟩
    · exact ⟨by rw [e2], by rw [e3]⟩
    · exact ⟨by rw [e2]; exact upd_other _ _ _ _ (by have := gpos hb; omega), by rw [e3]⟩
    · exact ⟨by rw [e2], by rw [e3]; exact upd_other _ _ _ _ (by have := gpos hb; omega)⟩
  have p1 : zl1 p = zl p := by
    rcases s1 with ⟨hb, e2, e3⟩ | ⟨hb, e1, e2, e3⟩ | ⟨hb, e1, e2, e3⟩
    · rw [e2]
    · rw [e2]; exact upd_other _ _ _ _ (fun e => hgp e.symm)
    · rw [e2]
  have nu2 : ∀ c : Int, 0 ≤ c → ∀ i, 0 < i → i < L → 0 ≤ upd (upC (upd zu x g) c p) p x i := by
    intro c hc
    refine upd_nn ?_ (by omega)
    simp only [upC]
    by_cases h0 : c = 0
    · rw [if_pos h0]; exact upd_nn nu (by omega)
    · rw [if_neg h0]; exact upd_nn (upd_nn nu (by omega)) (by omega)
  have zu2 : ∀ c : Int, 0 ≤ c → upd (upC (upd zu x g) c p) p x 0 = zu 0 := by
    intro c hc
    rw [upd_other _ _ _ _ (by omega)]
    simp only [upC]
    by_cases h0 : c = 0
    · rw [if_pos h0]; exact upd_other _ _ _ _ (by omega)
    · rw [if_neg h0, upd_other _ _ _ _ (by omega)]; exact upd_other _ _ _ _ (by omega)
  rcases s2 with ⟨hl, el, er, eu⟩ | ⟨hl, er, el, eu⟩
  · rw [p1] at hl
    have R := rot_l hg hx hp ex ep hl s1 hgx hgp
    rw [← el, ← er, ← eu] at R
    have F := R.facts ok hx (by omega)
    have ok' := R.ok ok F
    have cn := nr1 x hx.1 hx.2
    refine ⟨good_of hg.pos ok' ?_ ?_ ?_, ⟨?_, ?_, ?_⟩, fun _ => ⟨g, R, F⟩, fun h => absurd hl h⟩
    · rw [el]; exact upd_nn nl1 cn
    · rw [er]; exact upd_nn nr1 (by omega)
    · rw [eu]; exact nu2 _ cn
    · rw [el, upd_other _ _ _ _ (by omega)]; exact z1.1
    · rw [er, upd_other _ _ _ _ (by omega)]; exact z1.2
    · rw [eu]; exact zu2 _ cn
  · rw [p1] at hl
    have hr := kx.resolve_left hl
    have R := rot_l hg.mirror hx hp ex ep hr (step1_mirror hg hvp ep s1) hgx hgp
    rw [← el, ← er, ← eu] at R
    have F := R.facts ok.mirror hx (by omega)
    have ok' := (R.ok ok.mirror F).mirror
    have cn := nl1 x hx.1 hx.2
    refine ⟨good_of hg.pos ok' ?_ ?_ ?_, ⟨?_, ?_, ?_⟩, fun h => absurd h hl, fun _ => ⟨g, R, F⟩⟩
    · rw [el]; exact upd_nn nl1 (by omega)
    · rw [er]; exact upd_nn nr1 cn
    · rw [eu]; exact nu2 _ cn
    · rw [el, upd_other _ _ _ _ (by omega)]; exact z1.1
    · rw [er, upd_other _ _ _ _ (by omega)]; exact z1.2
    · rw [eu]; exact zu2 _ cn

/-- the vertices of a tree, as a list and as a set -/
theorem mem_verts {l r u : Nat → Nat} {L : Nat} (h : OK l r u L) {T : Nat → Nat → List (Nat × Nat)} (t : Trav l r L T) {a v : Nat} (ha : a < L) (hv : Vx L v) : v ∈ (T 0 a).map Prod.fst ↔ (a ≠ 0 ∧ Sub l r u L a v) := by
  constructor
  · intro hm
    obtain ⟨⟨y, e⟩, hy, rfl⟩ := List.mem_map.1 hm
    exact t.sub h ha hy
  · rintro ⟨h0, m, k⟩
    exact List.mem_map.2 ⟨(v, m), (t.mem_iff h ha).2 ⟨hv, m, by omega, k⟩, rfl⟩

/-- WHAT THE LAW's LAST LOOP ASKS -/
theorem last {L : Nat} {zl zr zu zl' zr' zu' : Nat → Int} {x p : Nat} (hg : Good L L L zl zr zu) (hx : Vx L x) (ex : zu x = p) (hp : 0 < p) (kx : zl p = x ∨ zr p = x) (R : Rotated L zl zr zu zl' zr' zu' x p) {T T' : Nat → Nat → List (Nat × Nat)} (t : Trav (nat zl) (nat zr) L T) (t' : Trav (nat zl') (nat zr') L T')
    {F0 P0 D0 Q0 F1 P1 D1 Q1 : Nat → Int} (d0 : Done (nat zl) (nat zr) (nat zu) L T zu F0 P0 D0 Q0 L) (d1 : Done (nat zl') (nat zr') (nat zu') L T' zu' F1 P1 D1 Q1 L)
    {outer other : Int} (ho : (zl p = x → outer = zl x ∧ other = zr p) ∧ (zl p ≠ x → outer = zr x ∧ other = zl p)) {dn rs : Nat → Bool}
    (hd : ∀ v, v < L → (dn v = true ↔ v = x ∨ v ∈ (T 0 outer.toNat).map Prod.fst)) (hr : ∀ v, v < L → (rs v = true ↔ v = p ∨ v ∈ (T 0 other.toNat).map Prod.fst)) {v : Nat} (hv : Vx L v) :
    F1 v = F0 v ∧ P1 v = P0 v ∧ Q1 v = Q0 v ∧ D1 v = (D0 v - (if dn v then 1 else 0)) + (if rs v then 1 else 0) ∧ 0 ≤ D0 v ∧ D0 v < L := by
  have ok := hg.ok
  have pL : p < L := by have := hg.rng x hx.1 hx.2; omega
  have hvp : Vx L p := ⟨hp, pL⟩
  have hzu : ∀ i, 0 < i → i < L → zu i = (nat zu i : Int) := fun i h0 h1 => nat_eq (hg.rng i h0 h1).2.2.1
  have hzu' : ∀ i, 0 < i → i < L → zu' i = (nat zu' i : Int) := fun i h0 h1 => nat_eq (R.good.rng i h0 h1).2.2.1
  by_cases hl : zl p = x
  · obtain ⟨g, RL, F⟩ := R.left hl
    obtain ⟨eo, et⟩ := ho.1 hl
    have hlx : nat zl p = x := by simp only [nat]; omega
    have kdx : Kid (nat zl) (nat zr) (nat zu) x := ⟨by simp only [nat]; omega, .inl (by rw [show nat zu x = p by simp only [nat]; omega]; exact hlx)⟩
    obtain ⟨f, f1, f2, f3, f4⟩ := moves_ex (fun v => v = x ∨ (nat zl x ≠ 0 ∧ Sub (nat zl) (nat zr) (nat zu) L (nat zl x) v)) (fun v => v = p ∨ (nat zr p ≠ 0 ∧ Sub (nat zl) (nat zr) (nat zu) L (nat zr p) v)) (fun v h1 h2 => dis_l ok F hlx v h1 h2)
    obtain ⟨a1, a2, a3, e, a4, a5, a6, a7⟩ := final ok t f4 hzu hzu' (fun a ha hk => RL.law ok F t t' ⟨f1, f2, f3⟩ ha hk) d0 d1 hv
    have e1 : dn v = true ↔ (v = x ∨ (nat zl x ≠ 0 ∧ Sub (nat zl) (nat zr) (nat zu) L (nat zl x) v)) := by rw [hd v hv.2, eo, ← mem_verts ok t (ok.bl x hx) hv]; rfl
    have e2 : rs v = true ↔ (v = p ∨ (nat zr p ≠ 0 ∧ Sub (nat zl) (nat zr) (nat zu) L (nat zr p) v)) := by rw [hr v hv.2, et, ← mem_verts ok t (ok.br p hvp) hv]; rfl
    refine ⟨a1, a2, a3, ?_, by rw [a4]; omega, by rw [a4]; omega⟩
    rw [a4, a5]
    by_cases h1 : dn v = true
    · have hn : rs v = false := by
        cases h2 : rs v
        · rfl
        · exact absurd (e2.1 h2) (fun k => dis_l ok F hlx v (e1.1 h1) k)
      obtain ⟨e', rfl⟩ : ∃ e', e = e' + 1 := ⟨e - 1, by have := a6 (kid_of_dn ok hx kdx (e1.1 h1)); omega⟩
      rw [f1 v e' (e1.1 h1), h1, hn]; simp
    · have h1' : dn v = false := by simpa using h1
      by_cases h2 : rs v = true
      · rw [f2 v e (e2.1 h2), h1', h2]; simp
      · have h2' : rs v = false := by simpa using h2
        rw [f3 v e (fun k => h1 (e1.2 k)) (fun k => h2 (e2.2 k)), h1', h2']; simp
  · obtain ⟨g, RL, F⟩ := R.right hl
    obtain ⟨eo, et⟩ := ho.2 hl
    have hrx : nat zr p = x := by have := kx.resolve_left hl; simp only [nat]; omega
    have kdx : Kid (nat zr) (nat zl) (nat zu) x := ⟨by simp only [nat]; omega, .inl (by rw [show nat zu x = p by simp only [nat]; omega]; exact hrx)⟩
    obtain ⟨f, f1, f2, f3, f4⟩ := moves_ex (fun v => v = x ∨ (nat zr x ≠ 0 ∧ Sub (nat zr) (nat zl) (nat zu) L (nat zr x) v)) (fun v => v = p ∨ (nat zl p ≠ 0 ∧ Sub (nat zr) (nat zl) (nat zu) L (nat zl p) v)) (fun v h1 h2 => dis_l ok.mirror F hrx v h1 h2)
    obtain ⟨a1, a2, a3, e, a4, a5, a6, a7⟩ := final ok t f4 hzu hzu' (fun a ha hk => RL.law' ok F t t' ⟨f1, f2, f3⟩ ha hk) d0 d1 hv
    have e1 : dn v = true ↔ (v = x ∨ (nat zr x ≠ 0 ∧ Sub (nat zr) (nat zl) (nat zu) L (nat zr x) v)) := by rw [hd v hv.2, eo, sub_mirror, ← mem_verts ok t (ok.br x hx) hv]; rfl
    have e2 : rs v = true ↔ (v = p ∨ (nat zl p ≠ 0 ∧ Sub (nat zr) (nat zl) (nat zu) L (nat zl p) v)) := by rw [hr v hv.2, et, sub_mirror, ← mem_verts ok t (ok.bl p hvp) hv]; rfl
    refine ⟨a1, a2, a3, ?_, by rw [a4]; omega, by rw [a4]; omega⟩
    rw [a4, a5]
    by_cases h1 : dn v = true
    · have hn : rs v = false := by
        cases h2 : rs v
        · rfl
        · exact absurd (e2.1 h2) (fun k => dis_l ok.mirror F hrx v (e1.1 h1) k)
      obtain ⟨e', rfl⟩ : ∃ e', e = e' + 1 := ⟨e - 1, by have := a6 (kid_mirror.1 (kid_of_dn ok.mirror hx kdx (e1.1 h1))); omega⟩
      rw [f1 v e' (e1.1 h1), h1, hn]; simp
    · have h1' : dn v = false := by simpa using h1
      by_cases h2 : rs v = true
      · rw [f2 v e (e2.1 h2), h1', h2]; simp
      · have h2' : rs v = false := by simpa using h2
        rw [f3 v e (fun k => h1 (e1.2 k)) (fun k => h2 (e2.2 k)), h1', h2']; simp
end Go.Proofs.Qxb6602963a
