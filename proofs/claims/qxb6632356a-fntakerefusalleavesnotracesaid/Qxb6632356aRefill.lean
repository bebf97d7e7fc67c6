import Derived.Test.Qxb6632356aWalks
import Derived.Test.Qxb6632356aPlain
namespace Go.Proofs.Qxb6632356a
open Go.RowKit Fl
set_option linter.unusedVariables false

theorem min_run {a b : Nat} (ha : Nn a) (hb : Nn b) : ∃ z, (∀ w, (Builtin.min_ #[22, 22] 22 #[.float .f64 a, .float .f64 b]).run Try.prog w = .ok (.float .f64 z) w) ∧ Nn z ∧ rg z = min (rg a) (rg b) := by
  rcases Nat.lt_trichotomy (rg a) (rg b) with h | h | h
  · refine ⟨a, fun w => ?_, ha, by omega⟩
    have := ord_lt ha hb h
    simp [Builtin.min_, Builtin.min2, this]
  · have := ord_eq ha hb h
    by_cases hn : (FloatKind.f64.decode a).neg = true
    · refine ⟨a, fun w => ?_, ha, by omega⟩
      simp [Builtin.min_, Builtin.min2, this, hn]
    · refine ⟨b, fun w => ?_, hb, by omega⟩
      simp [Builtin.min_, Builtin.min2, this, hn]
  · refine ⟨b, fun w => ?_, hb, by omega⟩
    have := ord_gt ha hb h
    simp [Builtin.min_, Builtin.min2, this]

theorem aft_true {s1 n1 s2 n2 : Int} (h : aft s1 n1 s2 n2 = true) : s2 < s1 ∨ (s1 = s2 ∧ n2 < n1) := by simpa [aft] using h
theorem aft_self (s n : Int) : aft s n s n = false := by simp [aft]

theorem giga : Nn 4741671816366391296 ∧ rg 4741671816366391296 < II ∧ 0 < rg 4741671816366391296 := by
  have h : Nn 4741671816366391296 := .inl (by decide)
  refine ⟨h, by decide, by decide⟩

theorem secs_ex (D k : Int) (hD : 0 ≤ D) (hk0 : 0 ≤ k) (hk : k < 1000000000) : ∃ q z, Ieee.double.div (floatOfInt .f64 k) 4741671816366391296 = some q ∧ Ieee.double.add (floatOfInt .f64 D) q = some z ∧ Nn z ∧ rg (floatOfInt .f64 D) ≤ rg z := by
  obtain ⟨q, hq, nq⟩ := div_nn (ofI_nn hk0).1 giga.1 (ofI_exact hk0 (by omega)).1 giga.2.1 giga.2.2
  obtain ⟨z, hz, nz, l1, l2⟩ := add_nn (ofI_nn hD).1 nq
  exact ⟨q, z, hq, hz, nz, l1⟩

/-- The seconds from one instant to a later one: a float that is not negative, and not below the whole seconds but one. -/
theorem since_ex (s1 n1 s2 n2 : Int) (b1 : -9223372036854775808 ≤ s2) (b2 : s1 ≤ 9223372036854775807) (c1 : 0 ≤ n1) (c2 : n1 < 1000000000) (c3 : 0 ≤ n2) (c4 : n2 < 1000000000) (ha : aft s1 n1 s2 n2 = true) :
    ∃ z, (∀ w, Calls Try.prog 10 #[.agg #[.int .i64 s1, .int .i64 n1], .agg #[.int .i64 s2, .int .i64 n2]] w fun e w' => e = .returned (.float .f64 z) ∧ Below w.heap.size w w') ∧ Nn z ∧
      (∀ k, 0 ≤ k → k ≤ s1 - s2 → (1 ≤ s1 - s2 → k ≤ s1 - s2 - 1) → rg (floatOfInt .f64 k) ≤ rg z) := by
  have h := aft_true ha
  by_cases hn : n2 ≤ n1
  · obtain ⟨q, z, hq, hz, nz, lz⟩ := secs_ex (s1 - s2) (n1 - n2) (by omega) (by omega) (by omega)
    refine ⟨z, fun w => since_a s1 n1 s2 n2 q z b1 b2 (by omega) c1 c2 c3 hn hq hz w, nz, ?_⟩
    intro k k0 k1 k2
    exact Nat.le_trans (ofI_le k0 k1) lz
  · obtain ⟨q, z, hq, hz, nz, lz⟩ := secs_ex (s1 - s2 - 1) (n1 - n2 + 1000000000) (by omega) (by omega) (by omega)
    refine ⟨z, fun w => since_b s1 n1 s2 n2 q z b1 b2 (by omega) c1 c4 (by omega) hq hz w, nz, ?_⟩
    intro k k0 k1 k2
    exact Nat.le_trans (ofI_le k0 (k2 (by omega))) lz

/-- What the refill hands to the take: the tokens t, and the instant that is kept. -/
def Rf (r x0 : Nat) (bu ls ln s2 n2 : Int) (t : Nat) (ps pn : Int) : Prop :=
  (aft s2 n2 ls ln = false ∧ t = x0 ∧ ps = ls ∧ pn = ln) ∨
  (aft s2 n2 ls ln = true ∧ ps = s2 ∧ pn = n2 ∧ ∃ sc, (∀ w, Calls Try.prog 10 #[.agg #[.int .i64 s2, .int .i64 n2], .agg #[.int .i64 ls, .int .i64 ln]] w fun e w' => e = .returned (.float .f64 sc) ∧ Below w.heap.size w w') ∧
    (∀ w, Calls Try.prog 9 #[.agg #[.float .f64 r, .int .i64 bu], .float .f64 x0, .float .f64 sc] w fun e w' => e = .returned (.float .f64 t) ∧ Below w.heap.size w w'))

/-- .. and what is known of t. -/
structure Tok (r x0 : Nat) (bu ls ln s2 n2 : Int) (t : Nat) (ps pn : Int) : Prop where
  nn : Nn t
  lo : rg x0 ≤ rg t
  hi : rg t ≤ rg (floatOfInt .f64 bu)
  same : aft s2 n2 ls ln = false → t = x0 ∧ ps = ls ∧ pn = ln
  later : aft s2 n2 ls ln = true → ps = s2 ∧ pn = n2
  full : aft s2 n2 ls ln = true → ∀ k p, 0 ≤ k → k ≤ s2 - ls → (1 ≤ s2 - ls → k ≤ s2 - ls - 1) → Ieee.double.mul (floatOfInt .f64 k) r = some p → rg (floatOfInt .f64 bu) ≤ rg p → rg t = rg (floatOfInt .f64 bu)

theorem rf_ex (r x0 : Nat) (bu ls ln s2 n2 : Int) (hr : Nn r) (fr : rg r < II) (pr : 0 < rg r) (hb0 : 1 ≤ bu) (hx : Nn x0) (hxb : rg x0 ≤ rg (floatOfInt .f64 bu))
    (b1 : -9223372036854775808 ≤ ls) (b2 : s2 ≤ 9223372036854775807) (c1 : 0 ≤ n2) (c2 : n2 < 1000000000) (c3 : 0 ≤ ln) (c4 : ln < 1000000000) :
    ∃ t ps pn, Rf r x0 bu ls ln s2 n2 t ps pn ∧ Tok r x0 bu ls ln s2 n2 t ps pn := by
  cases ha : aft s2 n2 ls ln
  · refine ⟨x0, ls, ln, .inl ⟨ha, rfl, rfl, rfl⟩, hx, Nat.le_refl _, hxb, fun _ => ⟨rfl, rfl, rfl⟩, fun h => ?_, fun h => ?_⟩
    · rw [ha] at h; cases h
    · rw [ha] at h; cases h
  · obtain ⟨sc, hsc, nsc, lsc⟩ := since_ex s2 n2 ls ln b1 b2 c1 c2 c3 c4 ha
    obtain ⟨p, hp, np, mp⟩ := mul_nn nsc hr fr pr
    obtain ⟨a, haa, na, la1, la2⟩ := add_nn hx np
    obtain ⟨t, ht, nt, rt⟩ := min_run na (ofI_nn (n := bu) (by omega)).1
    refine ⟨t, s2, n2, .inr ⟨ha, rfl, rfl, sc, hsc, fun w => refill_any r x0 sc bu p a t hp haa ht w⟩, nt, by omega, by omega, fun h => ?_, fun _ => ⟨rfl, rfl⟩, ?_⟩
    · rw [ha] at h; cases h
    · intro _ k p' k0 k1 k2 hp' hle
      have := mp _ _ (ofI_nn k0).1 (lsc k k0 k1 k2) hp'
      omega

end Go.Proofs.Qxb6632356a
