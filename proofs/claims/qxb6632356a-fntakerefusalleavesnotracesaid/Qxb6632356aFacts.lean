import Derived.Test.Qxb6632356aZz
namespace Go.Proofs.Qxb6632356a
open Go.RowKit Fl
set_option linter.unusedVariables false

theorem ord_ge {x y : Nat} (hx : Nn x) (hy : Nn y) (h : rg y ≤ rg x) : (FloatKind.f64.format.order x y == some .gt || FloatKind.f64.format.order x y == some .eq) = true := by
  rcases Nat.lt_or_eq_of_le h with h1 | h1
  · rw [ord_gt hx hy h1]; rfl
  · rw [ord_eq hx hy h1.symm]; rfl
theorem ord_le {x y : Nat} (hx : Nn x) (hy : Nn y) (h : rg x ≤ rg y) : (FloatKind.f64.format.order x y == some .lt || FloatKind.f64.format.order x y == some .eq) = true := by
  rcases Nat.lt_or_eq_of_le h with h1 | h1
  · rw [ord_lt hx hy h1]; rfl
  · rw [ord_eq hx hy h1]; rfl
theorem ord_nge {x y : Nat} (hx : Nn x) (hy : Nn y) (h : rg x < rg y) : (FloatKind.f64.format.order x y == some .gt || FloatKind.f64.format.order x y == some .eq) = false := by
  rw [ord_lt hx hy h]; rfl
theorem ord_nle {x y : Nat} (hx : Nn x) (hy : Nn y) (h : rg y < rg x) : (FloatKind.f64.format.order x y == some .lt || FloatKind.f64.format.order x y == some .eq) = false := by
  rw [ord_gt hx hy h]; rfl
theorem ord_ltT {x y : Nat} (hx : Nn x) (hy : Nn y) (h : rg x < rg y) : (FloatKind.f64.format.order x y == some .lt) = true := by
  rw [ord_lt hx hy h]; rfl
theorem ord_ltF {x y : Nat} (hx : Nn x) (hy : Nn y) (h : rg y ≤ rg x) : (FloatKind.f64.format.order x y == some .lt) = false := by
  rcases Nat.lt_or_eq_of_le h with h1 | h1
  · rw [ord_gt hx hy h1]; rfl
  · rw [ord_eq hx hy h1.symm]; rfl
theorem ord_neF {x y : Nat} (hx : Nn x) (hy : Nn y) (h : rg x = rg y) : (FloatKind.f64.format.order x y != some .eq) = false := by
  rw [ord_eq hx hy h]; rfl

theorem le_of_gtF {x y : Nat} (hx : Nn x) (hy : Nn y) (h : (FloatKind.f64.format.order x y == some .gt) = false) : rg x ≤ rg y := by
  rcases Nat.lt_or_ge (rg y) (rg x) with h1 | h1
  · rw [ord_gt hx hy h1] at h; cases h
  · exact h1

theorem nn_zero : Nn 0 := .inl (Nat.zero_le _)
theorem rg_zero : rg 0 = 0 := Fl.rg_le (Nat.zero_le _)

structure Gd (x0 r : Nat) (bu : Int) : Prop where
  nr : Nn r
  fr : rg r < II
  pr : 0 < rg r
  b0 : 1 ≤ bu
  b1 : bu ≤ 9007199254740992
  nx : Nn x0
  lx : rg x0 ≤ rg (floatOfInt .f64 bu)

theorem guard_facts {x0 r : Nat} {bu : Int} (hx0 : x0 < 2 ^ 64) (hr0 : r < 2 ^ 64) (g1 : (FloatKind.f64.format.order r 0 == some .gt) = true) (g2 : (FloatKind.f64.format.order r 9218868437227405311 == some .gt) = false) (g3 : decide (bu < 1) = false) (g4 : decide (9007199254740992 < bu) = false)
    (g5 : (FloatKind.f64.format.order x0 0 == some .gt || FloatKind.f64.format.order x0 0 == some .eq) = true) (g6 : (FloatKind.f64.format.order x0 (floatOfInt .f64 bu) == some .gt) = false) : Gd x0 r bu := by
  have g1' : FloatKind.f64.format.order r 0 = some .gt := by simpa using g1
  have o1 : Ieee.double.order r 0 = some .gt := g1'
  have nr : Nn r := nn_of_order hr0 (by rw [o1]; simp) (by rw [o1]; simp)
  have k3 : 1 ≤ bu := by simpa using g3
  have k4 : bu ≤ 9007199254740992 := by simpa using g4
  have nx : Nn x0 := by
    have g5' : (Ieee.double.order x0 0 == some .gt || Ieee.double.order x0 0 == some .eq) = true := g5
    refine nn_of_order hx0 ?_ ?_
    · intro h; rw [h] at g5'; simp at g5'
    · intro h; rw [h] at g5'; simp at g5'
  have hM : Nn 9218868437227405311 := .inl (by decide)
  have rM : rg 9218868437227405311 = 9218868437227405311 := by decide
  refine ⟨nr, ?_, ?_, k3, k4, nx, le_of_gtF nx (ofI_nn (by omega)).1 g6⟩
  · have := le_of_gtF nr hM g2
    rw [rM] at this
    have : II = 9218868437227405312 := rfl
    omega
  · rcases Nat.eq_zero_or_pos (rg r) with h | h
    · have := ord_eq nr nn_zero (by rw [h, rg_zero])
      rw [show FloatKind.f64.format.order r 0 = Ieee.double.order r 0 from rfl, o1] at this
      cases this
    · exact h

/-- All of a sum granted: then both of its parts, one after the other, with the same rest. -/
theorem plain_both {t x0 r : Nat} {bu ls ln s2 n2 ps pn m1 m2 : Int} (gd : Gd x0 r bu) (tk : Tok r x0 bu ls ln s2 n2 t ps pn) (k1 : 0 ≤ m1) (k2 : 0 ≤ m2) (k5 : m1 + m2 ≤ 9007199254740992) (h : rg (floatOfInt .f64 (m1 + m2)) ≤ rg t) :
    ∃ z1 z2 z y, Ieee.double.sub t (floatOfInt .f64 m1) = some z1 ∧ Ieee.double.sub z1 (floatOfInt .f64 m2) = some z2 ∧ Ieee.double.sub t (floatOfInt .f64 (m1 + m2)) = some z ∧ Ieee.double.add z (floatOfInt .f64 (m1 + m2)) = some y ∧
      rg (floatOfInt .f64 m1) ≤ rg t ∧ rg (floatOfInt .f64 m2) ≤ rg z1 ∧ Nn z1 ∧ Nn z2 ∧ Nn z ∧ Nn y ∧ rg z = rg z2 ∧ rg y = rg t := by
  have hb := gd.b1
  have hb0 := gd.b0
  have k3 : m1 ≤ 9007199254740992 := by omega
  have k4 : m2 ≤ 9007199254740992 := by omega
  have hW := W_add k1 k2
  have h' := (le_W (by omega) k5).1 h
  have hm1 : rg (floatOfInt .f64 m1) ≤ rg t := (le_W k1 k3).2 (by omega)
  obtain ⟨z1, e1, nz1, u1, l1, f1⟩ := sub_exact tk.nn (by omega) hb tk.hi k1 k3 hm1
  have hm2 : rg (floatOfInt .f64 m2) ≤ rg z1 := (le_W k2 k4).2 (by omega)
  obtain ⟨z2, e2, nz2, u2, l2, f2⟩ := sub_exact nz1 (by omega) hb (Nat.le_trans l1 tk.hi) k2 k4 hm2
  obtain ⟨z, e, nz, u, l, f⟩ := sub_exact tk.nn (by omega) hb tk.hi (by omega) k5 h
  have ft : rg t < II := Nat.lt_of_le_of_lt tk.hi (ofI_exact (by omega) hb).1
  obtain ⟨y, ey, ny, ry⟩ := add_back nz (by omega) k5 ft l u
  exact ⟨z1, z2, z, y, e1, e2, e, ey, hm1, hm2, nz1, nz2, nz, ny, U_inj (by omega), ry⟩

/-- The first part granted, the sum not: then not the second. -/
theorem plain_one {t x0 r : Nat} {bu ls ln s2 n2 ps pn m1 m2 : Int} (gd : Gd x0 r bu) (tk : Tok r x0 bu ls ln s2 n2 t ps pn) (k1 : 0 ≤ m1) (k2 : 0 ≤ m2) (k5 : m1 + m2 ≤ 9007199254740992) (h : rg t < rg (floatOfInt .f64 (m1 + m2))) (h1 : rg (floatOfInt .f64 m1) ≤ rg t) :
    ∃ z1 y, Ieee.double.sub t (floatOfInt .f64 m1) = some z1 ∧ Ieee.double.add z1 (floatOfInt .f64 m1) = some y ∧ Nn z1 ∧ Nn y ∧ rg z1 < rg (floatOfInt .f64 m2) ∧ rg y = rg t := by
  have hb := gd.b1
  have hb0 := gd.b0
  have k3 : m1 ≤ 9007199254740992 := by omega
  have k4 : m2 ≤ 9007199254740992 := by omega
  have hW := W_add k1 k2
  obtain ⟨z1, e1, nz1, u1, l1, f1⟩ := sub_exact tk.nn (by omega) hb tk.hi k1 k3 h1
  have ft : rg t < II := Nat.lt_of_le_of_lt tk.hi (ofI_exact (by omega) hb).1
  obtain ⟨y, ey, ny, ry⟩ := add_back nz1 k1 k3 ft l1 u1
  refine ⟨z1, y, e1, ey, nz1, ny, ?_, ry⟩
  rcases Nat.lt_or_ge (rg z1) (rg (floatOfInt .f64 m2)) with h2 | h2
  · exact h2
  · exfalso
    have h3 := (le_W k2 k4).1 h2
    have h4 := (le_W (x := t) (by omega) k5).2 (by omega)
    omega

/-- What is granted may be added again. -/
theorem plain_take {t x0 r : Nat} {bu ls ln s2 n2 ps pn m : Int} (gd : Gd x0 r bu) (tk : Tok r x0 bu ls ln s2 n2 t ps pn) (k1 : 0 ≤ m) (k3 : m ≤ 9007199254740992) (h1 : rg (floatOfInt .f64 m) ≤ rg t) :
    ∃ z y, Ieee.double.sub t (floatOfInt .f64 m) = some z ∧ Ieee.double.add z (floatOfInt .f64 m) = some y ∧ Nn z ∧ Nn y ∧ rg z ≤ rg t ∧ rg y = rg t := by
  have hb := gd.b1
  have hb0 := gd.b0
  obtain ⟨z1, e1, nz1, u1, l1, f1⟩ := sub_exact tk.nn (by omega) hb tk.hi k1 k3 h1
  have ft : rg t < II := Nat.lt_of_le_of_lt tk.hi (ofI_exact (by omega) hb).1
  obtain ⟨y, ey, ny, ry⟩ := add_back nz1 k1 k3 ft l1 u1
  exact ⟨z1, y, e1, ey, nz1, ny, l1, ry⟩

/-- A second take at the same instant refills nothing. -/
theorem Tok.again {t x0 r z : Nat} {bu ls ln s2 n2 ps pn : Int} (tk : Tok r x0 bu ls ln s2 n2 t ps pn) : Rf r z bu ps pn s2 n2 z ps pn := by
  refine .inl ⟨?_, rfl, rfl, rfl⟩
  cases ha : aft s2 n2 ls ln
  · obtain ⟨_, rfl, rfl⟩ := tk.same ha
    exact ha
  · obtain ⟨rfl, rfl⟩ := tk.later ha
    exact aft_self _ _

/-- A take, granted or not. -/
theorem zz_some {t x0 r : Nat} {bu ls ln s2 n2 ps pn m : Int} (gd : Gd x0 r bu) (hrf : Rf r x0 bu ls ln s2 n2 t ps pn) (tk : Tok r x0 bu ls ln s2 n2 t ps pn) (k1 : 0 ≤ m) (k3 : m ≤ 9007199254740992) :
    ∃ ok left tok se ns, (∀ w, Calls Try.prog 5 #[.float .f64 x0, .int .i64 ls, .int .i64 ln, .float .f64 r, .int .i64 bu, .int .i64 m, .int .i64 s2, .int .i64 n2] w (ZOut w ok left tok se ns)) ∧ Nn left ∧ Nn tok := by
  rcases Nat.lt_or_ge (rg t) (rg (floatOfInt .f64 m)) with h | h
  · exact ⟨_, _, _, _, _, fun w => zz_no x0 r t ls ln bu m s2 n2 ps pn w hrf (ord_ltT tk.nn (ofI_nn k1).1 h), tk.nn, gd.nx⟩
  · obtain ⟨z, y, e1, e2, nz, ny, _, _⟩ := plain_take gd tk k1 k3 h
    exact ⟨_, _, _, _, _, fun w => zz_yes x0 r t z ls ln bu m s2 n2 ps pn w hrf (ord_ltF tk.nn (ofI_nn k1).1 h) e1, nz, nz⟩

end Go.Proofs.Qxb6632356a
