import Derived.Test.Qxb6603969aS4
namespace Go.Proofs.Qxb6603969a
open Go.RowKit Go.Sort
set_option linter.unusedVariables false

/-- a counter in a block of its own -/
structure Cnt (w : World) (sb s : Nat) : Prop where
  cell : w.cell? ⟨sb, 0, none⟩ = some (.int .i64 s)
  free : w.frozen? ⟨sb, 0, none⟩ = false

def OPost (sb s x y : Nat) (w : World) (e : Ending) (w' : World) : Prop :=
  ∃ x' y' s' : Nat, (x' = x ∧ y' = y ∨ x' = y ∧ y' = x) ∧ s' ≤ s + 1 ∧ e = .returned (.tuple #[.int .i64 x', .int .i64 y']) ∧ Cnt w' sb s' ∧ Only sb w w'

theorem SRow.only {w w' : World} {b o sb : Nat} {d : Array Int} (h : SRow w b o d) (k : Only sb w w') (hb : b ≠ sb) : SRow w' b o d := h.of_block (k.block b h.lt hb)

theorem ord56 (b o cap n x y sb s : Nat) (d : Array Int) (w : World) (hn : d.size = n) (hr : SRow w b o d) (hx : x < d.size) (hy : y < d.size) (hc : Cnt w sb s) (hsb : b ≠ sb) (hsz : d.size ≤ 1048576) (hs : s < 1000) :
    Calls Try.prog 56 #[.slice (some ⟨b, o, none⟩) n cap, .int .i64 x, .int .i64 y, .pointer (some ⟨sb, 0, none⟩)] w fun e w' => OPost sb s x y w e w' := by
  subst hn
  obtain ⟨G, hcw, hfw, HG⟩ := hr.fam
  have h1 := hc.cell
  have h2 := hc.free
  clear hr hc
  go_enter Try.func56, Try.ntmps56
  go_wp2_with fail
  go_quiet ((go_at_call 45; exact Calls.quiet_of_same (less45 _ _ _)))
  have h1' : (w.drewN nq).cell? ⟨sb, 0, none⟩ = some (.int .i64 s) := h1
  have h2' : (w.drewN nq).frozen? ⟨sb, 0, none⟩ = false := h2
  have H3 : Aside (Only sb w (w.drewN nq)) := (Only.refl sb w).drewN nq
  clear h1 h2 hcw hfw
  generalize w.drewN nq = w2 at h1' h2' H3 ⊢
  go_wp2
  all_goals try go_region
  all_goals go_wp2
  all_goals go_ret2
  · refine ⟨y, x, s + 1, .inr ⟨rfl, rfl⟩, Nat.le_refl _, rfl, ⟨?_, ?_⟩, ?_⟩
    · first | (simp [World.cell?_setCell_self, h1']; done) | (simp [World.cell?_setCell, h1']; done) | (exact World.cell?_setCell_same _ _ _ h1')
    · simp [h2']
    · first | exact (H3.out.setCell (.inl rfl) _).drew | exact (H3.out.setCell (.inl rfl) _)
  · exact ⟨x, y, s, .inl ⟨rfl, rfl⟩, by omega, rfl, ⟨h1', h2'⟩, H3.out⟩

def MPost (sb s K x y z : Nat) (w : World) (e : Ending) (w' : World) : Prop :=
  ∃ m s' : Nat, (m = x ∨ m = y ∨ m = z) ∧ s' ≤ s + K ∧ e = .returned (.int .i64 m) ∧ Cnt w' sb s' ∧ Only sb w w'

theorem med54 (b o cap n x y z sb s : Nat) (d : Array Int) (w : World) (hn : d.size = n) (hr : SRow w b o d) (hx : x < d.size) (hy : y < d.size) (hz : z < d.size) (hc : Cnt w sb s) (hsb : b ≠ sb) (hsz : d.size ≤ 1048576) (hs : s < 900) :
    Calls Try.prog 54 #[.slice (some ⟨b, o, none⟩) n cap, .int .i64 x, .int .i64 y, .int .i64 z, .pointer (some ⟨sb, 0, none⟩)] w fun e w' => MPost sb s 3 x y z w e w' := by
  subst hn
  have HR : Aside (SRow w b o d ∧ Cnt w sb s) := ⟨hr, hc⟩
  clear hr hc
  go_enter Try.func54, Try.ntmps54
  go_wp2_with fail
  refine (ord56 b o cap d.size x y sb s d _ rfl HR.out.1 hx hy HR.out.2 hsb hsz (by omega)).mono ?_
  rintro e w1 ⟨x1, y1, s1, h1, hs1, rfl, hC1, hO1⟩
  have R1 : Aside (SRow w1 b o d ∧ Cnt w1 sb s1 ∧ Only sb w w1 ∧ (x1 = x ∧ y1 = y ∨ x1 = y ∧ y1 = x)) := ⟨HR.out.1.only hO1 hsb, hC1, hO1, h1⟩
  have hx1 : x1 < d.size := by omega
  have hy1 : y1 < d.size := by omega
  clear hC1 hO1 h1
  go_wp2_with fail
  refine (ord56 b o cap d.size y1 z sb s1 d _ rfl R1.out.1 hy1 hz R1.out.2.1 hsb hsz (by omega)).mono ?_
  rintro e w2 ⟨y2, z2, s2, h2, hs2, rfl, hC2, hO2⟩
  have R2 : Aside (SRow w2 b o d ∧ Cnt w2 sb s2 ∧ Only sb w w2 ∧ (y2 = y1 ∧ z2 = z ∨ y2 = z ∧ z2 = y1)) := ⟨R1.out.1.only hO2 hsb, hC2, R1.out.2.2.1.trans hO2, h2⟩
  have hy2 : y2 < d.size := by omega
  clear hC2 hO2 h2
  go_wp2_with fail
  refine (ord56 b o cap d.size x1 y2 sb s2 d _ rfl R2.out.1 hx1 hy2 R2.out.2.1 hsb hsz (by omega)).mono ?_
  rintro e w3 ⟨x3, y3, s3, h3, hs3, rfl, hC3, hO3⟩
  have R3 : Aside (Cnt w3 sb s3 ∧ Only sb w w3 ∧ (x3 = x1 ∧ y3 = y2 ∨ x3 = y2 ∧ y3 = x1)) := ⟨hC3, R2.out.2.2.1.trans hO3, h3⟩
  clear hC3 hO3 h3
  go_wp2
  go_ret
  have e1 := R1.out.2.2.2
  have e2 := R2.out.2.2.2
  have e3 := R3.out.2.2
  exact ⟨y3, s3, by omega, by omega, rfl, R3.out.1, R3.out.2.1⟩

theorem madj53 (b o cap n x sb s : Nat) (d : Array Int) (w : World) (hn : d.size = n) (hr : SRow w b o d) (hx0 : 0 < x) (hx : x + 1 < d.size) (hc : Cnt w sb s) (hsb : b ≠ sb) (hsz : d.size ≤ 1048576) (hs : s < 900) :
    Calls Try.prog 53 #[.slice (some ⟨b, o, none⟩) n cap, .int .i64 x, .pointer (some ⟨sb, 0, none⟩)] w fun e w' => MPost sb s 3 (x - 1) x (x + 1) w e w' := by
  subst hn
  have hcall := med54 b o cap d.size (x - 1) x (x + 1) sb s d w rfl hr (by omega) (by omega) hx hc hsb hsz hs
  have ex1 : ((x - 1 : Nat) : Int) = (x : Int) - 1 := by omega
  have ex2 : ((x + 1 : Nat) : Int) = (x : Int) + 1 := by omega
  rw [ex1, ex2] at hcall
  clear hr hc ex1 ex2
  go_enter Try.func53, Try.ntmps53
  go_wp2_with fail
  refine hcall.mono ?_
  rintro e w1 ⟨m, s1, h1, hs1, rfl, hC1, hO1⟩
  have R1 : Aside (Cnt w1 sb s1 ∧ Only sb w w1 ∧ (m = x - 1 ∨ m = x ∨ m = x + 1)) := ⟨hC1, hO1, h1⟩
  clear hC1 hO1 h1
  go_wp2
  go_ret
  exact ⟨m, s1, R1.out.2.2, hs1, rfl, R1.out.1, R1.out.2.1⟩
end Go.Proofs.Qxb6603969a
