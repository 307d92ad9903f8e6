import Derived.Test.Qxb6602963aMain
namespace Go.Proofs.Qxb6602963a
set_option linter.unusedVariables false

/-- a list of numbers laid in two rows: its head, and who comes behind each -/
def LL (nx : Nat → Int) : Int → List Nat → Prop
  | h, [] => h = -1
  | h, k :: t => h = (k : Int) ∧ LL nx (nx k) t

theorem LL.upd {nx : Nat → Int} {i : Nat} {x : Int} : ∀ (l : List Nat) (h : Int), i ∉ l → (LL (updN nx i x) h l ↔ LL nx h l) := by
  intro l
  induction l with
  | nil => intro h _; exact Iff.rfl
  | cons k t ih =>
    intro h hn
    have hk : k ≠ i := by rintro rfl; exact hn List.mem_cons_self
    show (h = (k : Int) ∧ LL (updN nx i x) (updN nx i x k) t) ↔ (h = (k : Int) ∧ LL nx (nx k) t)
    rw [updN_ne _ _ hk, ih _ (fun e => hn (List.mem_cons_of_mem _ e))]

/-- the stack of the tree's walk -/
def WayN (d : Nat → Nat) : List Nat → Prop
  | [] => True
  | [j] => j = 0
  | j :: k :: r => 0 < j ∧ d j = k ∧ WayN d (k :: r)

structure Nt (m : Nat) (d : Nat → Nat) (pre post : Nat → Int) (cnt : Nat) (K : Nat → List Nat) (st : List Nat) : Prop where
  cm : cnt < m
  frees : free pre m + (cnt + 1) = m
  pb : ∀ j, j < m → pre j = -1 ∨ (0 ≤ pre j ∧ pre j ≤ cnt)
  inj : ∀ i j, i < m → j < m → 0 ≤ pre i → pre i = pre j → i = j
  surj : ∀ x, x ≤ cnt → ∃ j, j < m ∧ pre j = (x : Int)
  mono : ∀ k, 0 < k → k < m → 0 ≤ pre k → 0 ≤ pre (d k) ∧ pre (d k) < pre k
  kids : ∀ i k, k ∈ K i → k < m ∧ 0 < k ∧ d k = i ∧ pre k = -1
  knd : ∀ i, (K i).Nodup
  unv : ∀ k, 0 < k → k < m → pre k = -1 → k ∈ K (d k)
  way : WayN d st
  stv : ∀ j, j ∈ st → j < m ∧ 0 ≤ pre j
  i4 : ∀ j, j ∈ st → ∀ z, z < m → pre j ≤ pre z → Anc d j z
  z0 : pre 0 = 0
  fin : ∀ j, j < m → 0 ≤ pre j → j ∉ st → ∃ e : Nat, post j = (e : Int) ∧ e ≤ cnt + 1 ∧ ∀ z, z < m → (Anc d j z ↔ pre j ≤ pre z ∧ pre z < (e : Int))

section
variable {m cnt : Nat} {d : Nat → Nat} {pre post : Nat → Int} {K : Nat → List Nat} {st : List Nat}

theorem Nt.start (hm : 0 < m) (post : Nat → Int) (K : Nat → List Nat) (hd : ∀ k, 0 < k → k < m → d k < k) (hK : ∀ i k, k ∈ K i ↔ (k < m ∧ 0 < k ∧ d k = i)) (hnd : ∀ i, (K i).Nodup) : Nt m d (updN (fun _ => -1) 0 0) post 0 K [0] := by
  have hf : ∀ k, free (fun _ => (-1 : Int)) k = k := fun k => by
    induction k with
    | zero => rfl
    | succ k ih => simp only [free]; rw [ih, if_pos (by omega)]
  have hv : ∀ j, 0 ≤ updN (fun _ => (-1 : Int)) 0 0 j → j = 0 := fun j hj => by
    by_cases e : j = 0
    · exact e
    · rw [updN_ne _ _ e] at hj; omega
  refine ⟨hm, ?_, fun j hj => ?_, fun i j hi hj h1 h2 => ?_, fun x hx => ⟨0, hm, by rw [updN_same]; omega⟩, fun k h0 hk hp => ?_, fun i k hk => ?_, hnd, fun k h0 hk hp => (hK _ k).2 ⟨hk, h0, rfl⟩, rfl, fun j hj => ?_, fun j hj z hz hp => ?_, updN_same _ _ _, fun j hj hp hn => ?_⟩
  · have := free_upd (num := fun _ => -1) (w := 0) (x := 0) (by omega) (by omega) m
    rw [hf, if_pos hm] at this
    omega
  · by_cases e : j = 0
    · subst e; rw [updN_same]; exact .inr ⟨by omega, by omega⟩
    · rw [updN_ne _ _ e]; exact .inl rfl
  · rw [hv i h1, hv j (by omega)]
  · have := hv k hp; omega
  · obtain ⟨h1, h2, h3⟩ := (hK i k).1 hk
    exact ⟨h1, h2, h3, updN_ne _ _ (by omega)⟩
  · obtain rfl : j = 0 := by simpa using hj
    exact ⟨hm, by rw [updN_same]; omega⟩
  · obtain rfl : j = 0 := by simpa using hj
    rw [updN_same] at hp
    rw [hv z hp]
    exact .refl
  · have := hv j hp
    subst this
    exact absurd List.mem_cons_self hn

theorem wayN_tail {p : Nat} {r : List Nat} (h : WayN d (p :: r)) : WayN d r := by
  cases r with
  | nil => trivial
  | cons q r => exact h.2.2

theorem wayN_anc : ∀ (r : List Nat) (j : Nat), WayN d (j :: r) → ∀ k, k ∈ r → Anc d k j := by
  intro r
  induction r with
  | nil => intro j _ k h; simp at h
  | cons q r ih =>
    intro j hw k hm
    obtain ⟨h0, h1, h2⟩ := hw
    have hqj : Anc d q j := .up h0 (h1 ▸ .refl)
    rcases List.mem_cons.1 hm with e | e
    · subst e; exact hqj
    · exact (ih q h2 k e).trans hqj

theorem Nt.mono_anc (hd : ∀ k, 0 < k → k < m → d k < k) (h : Nt m d pre post cnt K st) {a b : Nat} (k : Anc d a b) (hb : b < m) (hp : 0 ≤ pre b) : 0 ≤ pre a ∧ pre a ≤ pre b := by
  induction k with
  | refl => exact ⟨hp, Int.le_refl _⟩
  | up h0 h1 ih =>
    have h2 := hd _ h0 hb
    obtain ⟨h3, h4⟩ := h.mono _ h0 hb hp
    have := ih (by omega) h3
    omega

theorem Nt.push (hd : ∀ k, 0 < k → k < m → d k < k) {j k : Nat} {t r : List Nat} (h : Nt m d pre post cnt K (j :: r)) (hK : K j = k :: t) :
    cnt + 1 < m ∧ Nt m d (updN pre k ((cnt + 1 : Nat) : Int)) post (cnt + 1) (updN K j t) (k :: j :: r) := by
  obtain ⟨hk1, hk2, hk3, hk4⟩ := h.kids j k (by rw [hK]; exact List.mem_cons_self)
  have hj := h.stv j List.mem_cons_self
  have hfr := free_upd (num := pre) (w := k) (x := ((cnt + 1 : Nat) : Int)) (by omega) (by omega) m
  rw [if_pos hk1] at hfr
  have hcm : cnt + 1 < m := by have := h.frees; omega
  have hjk : j ≠ k := by rintro rfl; omega
  have hne : ∀ x, 0 ≤ pre x → updN pre k ((cnt + 1 : Nat) : Int) x = pre x := fun x hx => updN_ne _ _ (by rintro rfl; omega)
  have hle : ∀ x, x < m → pre x ≤ cnt := fun x hx => by rcases h.pb x hx with e | e <;> omega
  have hcases : ∀ x, x < m → x = k ∨ updN pre k ((cnt + 1 : Nat) : Int) x = pre x := fun x _ => by
    by_cases e : x = k
    · exact .inl e
    · exact .inr (updN_ne _ _ e)
  have hkj : Anc d j k := .up hk2 (hk3 ▸ .refl)
  refine ⟨hcm, hcm, by have := h.frees; omega, fun x hx => ?_, fun x y hx hy h1 h2 => ?_, fun x hx => ?_, fun x h0 hx hp => ?_, fun x y hy => ?_, fun x => ?_, fun x h0 hx hp => ?_, ?_, fun x hx => ?_, fun x hx z hz hp => ?_, ?_, fun x hx hp hn => ?_⟩
  · rcases hcases x hx with e | e
    · subst e; rw [updN_same]; exact .inr ⟨by omega, by omega⟩
    · rw [e]
      rcases h.pb x hx with c | c
      · exact .inl c
      · exact .inr ⟨c.1, by omega⟩
  · rcases hcases x hx with e | e <;> rcases hcases y hy with e' | e'
    · rw [e, e']
    · subst e; rw [updN_same, e'] at h2; have := hle y hy; omega
    · subst e'; rw [updN_same, e] at h2; have := hle x hx; omega
    · rw [e] at h1 h2; rw [e'] at h2; exact h.inj x y hx hy h1 h2
  · by_cases e : x = cnt + 1
    · exact ⟨k, hk1, by rw [updN_same, e]⟩
    · obtain ⟨y, h1, h2⟩ := h.surj x (by omega)
      exact ⟨y, h1, by rw [hne y (by omega)]; exact h2⟩
  · rcases hcases x hx with e | e
    · subst e
      rw [updN_same, hk3, hne j hj.2]
      have := hle j hj.1
      exact ⟨hj.2, by omega⟩
    · rw [e] at hp ⊢
      obtain ⟨h1, h2⟩ := h.mono x h0 hx hp
      rw [hne _ h1]
      exact ⟨h1, h2⟩
  · have h1 : y ∈ K x ∧ y ≠ k := by
      by_cases e : x = j
      · subst e
        rw [updN_same] at hy
        have hnd := h.knd x
        rw [hK] at hnd ⊢
        exact ⟨List.mem_cons_of_mem _ hy, fun e => (List.nodup_cons.1 hnd).1 (e ▸ hy)⟩
      · rw [updN_ne _ _ e] at hy
        refine ⟨hy, fun e2 => e ?_⟩
        have := (h.kids x y hy).2.2.1
        rw [e2, hk3] at this
        exact this.symm
    obtain ⟨q1, q2, q3, q4⟩ := h.kids x y h1.1
    exact ⟨q1, q2, q3, by rw [updN_ne _ _ h1.2]; exact q4⟩
  · by_cases e : x = j
    · subst e
      rw [updN_same]
      have hnd := h.knd x
      rw [hK] at hnd
      exact (List.nodup_cons.1 hnd).2
    · rw [updN_ne _ _ e]; exact h.knd x
  · rcases hcases x hx with e | e
    · subst e; rw [updN_same] at hp; omega
    · rw [e] at hp
      have h1 := h.unv x h0 hx hp
      by_cases e2 : d x = j
      · rw [e2, updN_same]
        rw [e2, hK] at h1
        rcases List.mem_cons.1 h1 with c | c
        · subst c; rw [updN_same] at e; omega
        · exact c
      · rw [updN_ne _ _ e2]; exact h1
  · exact ⟨hk2, hk3, h.way⟩
  · rcases List.mem_cons.1 hx with e | e
    · subst e; exact ⟨hk1, by rw [updN_same]; omega⟩
    · obtain ⟨q1, q2⟩ := h.stv x e
      exact ⟨q1, by rw [hne x q2]; exact q2⟩
  · rcases List.mem_cons.1 hx with e | e
    · subst e
      rcases hcases z hz with e | e
      · subst e; exact .refl
      · rw [updN_same, e] at hp; have := hle z hz; omega
    · obtain ⟨q1, q2⟩ := h.stv x e
      have hxj : Anc d x j := by
        rcases List.mem_cons.1 e with c | c
        · subst c; exact .refl
        · exact wayN_anc r j h.way x c
      rcases hcases z hz with e2 | e2
      · subst e2; exact hxj.trans hkj
      · rw [hne x q2, e2] at hp
        exact h.i4 x e z hz hp
  · rw [hne 0 (by rw [h.z0]; omega)]; exact h.z0
  · have hxk : x ≠ k := fun e => hn (e ▸ List.mem_cons_self)
    rw [updN_ne _ _ hxk] at hp ⊢
    obtain ⟨e, h1, h2, h3⟩ := h.fin x hx hp (fun c => hn (List.mem_cons_of_mem _ c))
    refine ⟨e, h1, by omega, fun z hz => ?_⟩
    rcases hcases z hz with e2 | e2
    · subst e2
      rw [updN_same]
      constructor
      · intro c
        have := (h3 z hz).1 c
        omega
      · intro c; omega
    · rw [e2]; exact h3 z hz

theorem Nt.pop (hd : ∀ k, 0 < k → k < m → d k < k) {j : Nat} {r : List Nat} (h : Nt m d pre post cnt K (j :: r)) (hK : K j = []) : Nt m d pre (updN post j ((cnt + 1 : Nat) : Int)) cnt K r := by
  have hj := h.stv j List.mem_cons_self
  have hle : ∀ x, x < m → pre x ≤ cnt := fun x hx => by rcases h.pb x hx with e | e <;> omega
  -- all below j are numbered
  have hall : ∀ z, Anc d j z → z < m → 0 ≤ pre z := by
    intro z hz
    induction hz with
    | refl => intro _; exact hj.2
    | up h0 h1 ih =>
      rename_i b
      intro hb
      have hb1 := hd b h0 hb
      have hp := ih (by omega)
      rcases h.pb b hb with c | c
      · exfalso
        have hm := h.unv b h0 hb c
        by_cases e : d b = j
        · rw [e, hK] at hm; simp at hm
        · have hn : d b ∉ j :: r := fun hm2 => by
            rcases List.mem_cons.1 hm2 with c1 | c1
            · exact e c1
            · have h3 := wayN_anc r j h.way _ c1
              have h4 := anc_le hd h3 hj.1
              have h5 := anc_le hd h1 (by omega)
              omega
          obtain ⟨e2, h3, h4, h5⟩ := h.fin (d b) (by omega) hp hn
          have := (h5 b hb).1 (.up h0 .refl)
          omega
      · exact c.1
  refine ⟨h.cm, h.frees, h.pb, h.inj, h.surj, h.mono, h.kids, h.knd, h.unv, wayN_tail h.way, fun x hx => h.stv x (List.mem_cons_of_mem _ hx), fun x hx => h.i4 x (List.mem_cons_of_mem _ hx), h.z0, fun x hx hp hn => ?_⟩
  by_cases e : x = j
  · subst e
    refine ⟨cnt + 1, updN_same _ _ _, Nat.le_refl _, fun z hz => ⟨fun c => ?_, fun c => h.i4 x List.mem_cons_self z hz c.1⟩⟩
    have h1 := hall z c hz
    have h2 := h.mono_anc hd c hz h1
    have := hle z hz
    exact ⟨h2.2, by omega⟩
  · obtain ⟨e2, h1, h2, h3⟩ := h.fin x hx hp (fun c => by
      rcases List.mem_cons.1 c with c1 | c1
      · exact e c1
      · exact hn c1)
    exact ⟨e2, by rw [updN_ne _ _ e]; exact h1, h2, h3⟩

/-- the walk's end -/
structure Nums (m : Nat) (d : Nat → Nat) (pre post : Nat → Int) : Prop where
  rng : ∀ j, j < m → 0 ≤ pre j ∧ pre j < m
  inj : ∀ i j, i < m → j < m → pre i = pre j → i = j
  surj : ∀ x, x < m → ∃ j, j < m ∧ pre j = (x : Int)
  pst : ∀ j, j < m → pre j < post j ∧ post j ≤ m
  iff : ∀ i j, i < m → j < m → (Anc d i j ↔ pre i ≤ pre j ∧ pre j < post i)

theorem Nt.over (hm : 0 < m) (hd : ∀ k, 0 < k → k < m → d k < k) (h : Nt m d pre post cnt K []) : Nums m d pre post := by
  have hz : ∀ b, b < m → Anc d 0 b := by
    intro b
    induction b using Nat.strongRecOn with
    | ind b ih =>
      intro hb
      rcases Nat.eq_zero_or_pos b with c | c
      · subst c; exact .refl
      · exact .up c (ih _ (hd b c hb) (by have := hd b c hb; omega))
  have hall : ∀ b, b < m → 0 ≤ pre b := fun b hb => by
    obtain ⟨e, _, _, h3⟩ := h.fin 0 hm (by rw [h.z0]; omega) (by simp)
    have := ((h3 b hb).1 (hz b hb)).1
    rw [h.z0] at this
    exact this
  have hf : ∀ k, k ≤ m → free pre k = 0 := by
    intro k
    induction k with
    | zero => intro _; rfl
    | succ k ih => intro hk; simp only [free]; rw [ih (by omega), if_neg (by have := hall k (by omega); omega)]
  have hc : cnt + 1 = m := by have := h.frees; rw [hf m (Nat.le_refl _)] at this; omega
  refine ⟨fun j hj => ?_, fun i j hi hj e => h.inj i j hi hj (hall i hi) e, fun x hx => h.surj x (by omega), fun j hj => ?_, fun i j hi hj => ?_⟩
  · have := hall j hj
    rcases h.pb j hj with c | c <;> omega
  · obtain ⟨e, h1, h2, h3⟩ := h.fin j hj (hall j hj) (by simp)
    have := (h3 j hj).1 .refl
    omega
  · obtain ⟨e, h1, h2, h3⟩ := h.fin i hi (hall i hi) (by simp)
    rw [h1]
    exact h3 j hj
end
end Go.Proofs.Qxb6602963a
