import Derived.Test.Qxb6632356aWords
import Derived.Laws.Cover2
namespace Go.Proofs.Qxb6632356a.Fl
set_option linter.unusedVariables false

/-! Which words are not negative. -/
theorem nn_of_order {x : Nat} (hx : x < 2 ^ 64) (h1 : Ieee.double.order x 0 ≠ none) (h2 : Ieee.double.order x 0 ≠ some .lt) : Nn x := by
  have hlp : Ieee.double.leastPlace = -1074 := by decide
  have hbi : Ieee.double.binade = BB := by decide
  have h0 : Ieee.double.read 0 = .number false 0 (-1074) := by decide
  unfold Ieee.Format.order at h1 h2
  rw [h0] at h1 h2
  have hNZ : NZ = 9223372036854775808 := rfl
  have hII : II = 9218868437227405312 := rfl
  have hBB : BB = 4503599627370496 := rfl
  rcases Nat.lt_or_ge x NZ with hs | hs
  · rcases Nat.lt_or_ge II x with hn | hn
    · exfalso
      apply h1
      unfold Ieee.Format.read
      simp only [NZ_eq, II_eq, hlp, hbi, Nat.div_eq_of_lt hs, Nat.mod_eq_of_lt hs]
      rw [if_neg (by omega), if_neg (by omega), if_neg (by omega)]
      rfl
    · exact .inl hn
  · by_cases he : x = NZ
    · exact .inr he
    · exfalso
      have d1 : x / NZ = 1 := by rw [hNZ] at hs ⊢; omega
      have d2 : x % NZ = x - NZ := by rw [hNZ] at hs ⊢; omega
      unfold Ieee.Format.read at h1 h2
      simp only [NZ_eq, II_eq, hlp, hbi, d1, d2] at h1 h2
      by_cases c1 : x - NZ < BB
      · rw [if_pos c1] at h2
        apply h2
        simp only [Ieee.Datum.order, Ieee.signed]
        simp [Nat.shiftLeft_eq, Int.compare_eq_lt]
        omega
      · rw [if_neg c1] at h1 h2
        by_cases c2 : x - NZ < II
        · rw [if_pos c2] at h2
          apply h2
          simp only [Ieee.Datum.order, Ieee.signed]
          have : 0 < (BB + (x - NZ) % BB) <<< ((-1074 + (((x - NZ) / BB - 1 : Nat) : Int)) - min (-1074 + (((x - NZ) / BB - 1 : Nat) : Int)) (-1074)).toNat := by
            rw [Nat.shiftLeft_eq]
            exact Nat.mul_pos (by omega) (Nat.two_pow_pos _)
          generalize (BB + (x - NZ) % BB) <<< ((-1074 + (((x - NZ) / BB - 1 : Nat) : Int)) - min (-1074 + (((x - NZ) / BB - 1 : Nat) : Int)) (-1074)).toNat = g at *
          simp [Int.compare_eq_lt]
          omega
        · rw [if_neg c2] at h1 h2
          by_cases c3 : x - NZ = II
          · rw [if_pos c3] at h2
            apply h2
            simp [Ieee.Datum.order]
          · rw [if_neg c3] at h1
            apply h1
            rfl

/-! Order, in the words that the walk asks for. -/
theorem ord_lt {x y : Nat} (hx : Nn x) (hy : Nn y) (h : rg x < rg y) : FloatKind.f64.format.order x y = some .lt := by
  show Ieee.double.order x y = _
  rw [order_eq hx hy, Nat.compare_eq_lt.2 h]
theorem ord_eq {x y : Nat} (hx : Nn x) (hy : Nn y) (h : rg x = rg y) : FloatKind.f64.format.order x y = some .eq := by
  show Ieee.double.order x y = _
  rw [order_eq hx hy, Nat.compare_eq_eq.2 h]
theorem ord_gt {x y : Nat} (hx : Nn x) (hy : Nn y) (h : rg y < rg x) : FloatKind.f64.format.order x y = some .gt := by
  show Ieee.double.order x y = _
  rw [order_eq hx hy, Nat.compare_eq_gt.2 h]

/-! Whole numbers. -/
@[irreducible] def pl : Nat := 1074
theorem pl_eq : pl = 1074 := by unfold pl; rfl
def W (n : Int) : Nat := n.toNat * 2 ^ pl
@[irreducible] def ph : Nat := 2046
theorem ph_eq : ph = 2046 := by unfold ph; rfl
theorem pow_lt (a b : Nat) (h : a < b) : 2 ^ a < 2 ^ b := Nat.pow_lt_pow_right (by omega) h
theorem U_II : U II = BB * 2 ^ ph := by
  have := V_form BB BB_pos ph BB (by omega) (.inl (Nat.le_refl _))
  have e : ph * BB + BB = II := by rw [ph_eq, II_BB]; omega
  exact (congrArg (V BB) e).symm.trans this
theorem W_lt_II {n : Int} (h : n ≤ 9007199254740992) : W n < U II := by
  rw [U_II]
  have h1 : W n ≤ 2 ^ 53 * 2 ^ pl := Nat.mul_le_mul_right _ (by omega)
  have h2 : 2 ^ 53 * 2 ^ pl < BB * 2 ^ ph := by
    rw [BB_pow, ← Nat.pow_add, ← Nat.pow_add]
    exact pow_lt _ _ (by rw [pl_eq, ph_eq]; omega)
  exact Nat.lt_of_le_of_lt h1 h2

theorem ofI_write {n : Int} (h : 0 ≤ n) : floatOfInt .f64 n = Ieee.double.write (.number false n.toNat 0) := by
  show Ieee.double.write (.number (n < 0) n.natAbs 0) = _
  have : decide (n < 0) = false := by simp; omega
  rw [this, show n.natAbs = n.toNat by omega]

theorem ofI_nn {n : Int} (h : 0 ≤ n) : Nn (floatOfInt .f64 n) ∧ rg (floatOfInt .f64 n) = min (rndU (W n)) II := by
  rw [ofI_write h]
  have := write_pos false n.toNat 0 (fun h => by cases h)
  refine ⟨this.1, ?_⟩
  have e : ((0 : Int) + 1074).toNat = pl := by rw [pl_eq]; omega
  rw [this.2, rnd_rndU (by omega), e]
  rfl

theorem ofI_le {m n : Int} (hm : 0 ≤ m) (h : m ≤ n) : rg (floatOfInt .f64 m) ≤ rg (floatOfInt .f64 n) := by
  rw [(ofI_nn hm).2, (ofI_nn (by omega)).2]
  have : rndU (W m) ≤ rndU (W n) := rndU_mono (Nat.mul_le_mul_right _ (by omega))
  omega

theorem ofI_exact {n : Int} (h0 : 0 ≤ n) (h : n ≤ 9007199254740992) : rg (floatOfInt .f64 n) < II ∧ U (rg (floatOfInt .f64 n)) = W n := by
  obtain ⟨r, hr⟩ := rung_of BB BB_pos pl n.toNat (by have : BB = 4503599627370496 := rfl; omega)
  have hr' : U r = W n := hr
  have hlt : r < II := (U_lt_iff _ _).1 (by rw [hr']; exact W_lt_II h)
  have e : rg (floatOfInt .f64 n) = r := by
    rw [(ofI_nn h0).2, ← hr', rndU_exact]; omega
  rw [e]
  exact ⟨hlt, hr'⟩

theorem U_inj {r s : Nat} (h : U r = U s) : r = s := V_inj BB BB_pos _ _ h
theorem U_le_iff (r s : Nat) : U r ≤ U s ↔ r ≤ s := V_le_iff BB BB_pos r s

/-- A number up to 2 ^ 53 as a multiple of a power of two up to 1. -/
theorem coarse {r : Nat} (h : U r ≤ 2 ^ 53 * 2 ^ pl) : ∃ k e, U r = k * 2 ^ e ∧ e ≤ pl ∧ k ≤ 2 * BB := by
  obtain ⟨e, k, rfl, hk, hn⟩ := normal BB BB_pos r
  have hv : U (e * BB + k) = k * 2 ^ e := V_form BB BB_pos e k (by omega) hn
  rw [hv] at h ⊢
  by_cases he : e ≤ pl
  · exact ⟨k, e, rfl, he, by omega⟩
  · have hB : BB ≤ k := by omega
    have h53 : 2 * BB = 2 ^ 53 := by decide
    have hpe : 2 ^ e = 2 ^ (e - pl) * 2 ^ pl := by rw [← Nat.pow_add]; congr 1; omega
    refine ⟨k * 2 ^ (e - pl), pl, by rw [hpe, Nat.mul_assoc], Nat.le_refl _, ?_⟩
    rw [hpe, ← Nat.mul_assoc] at h
    have := Nat.le_of_mul_le_mul_right h (Nat.two_pow_pos pl)
    omega

theorem rung_diff {X k e : Nat} {n : Int} (hk : X = k * 2 ^ e) (he : e ≤ pl) (hkB : k ≤ 2 * BB) : ∃ r, U r = X - W n := by
  have hp : 2 ^ pl = 2 ^ (pl - e) * 2 ^ e := by rw [← Nat.pow_add]; congr 1; omega
  obtain ⟨r, hr⟩ := rung_of BB BB_pos e (k - n.toNat * 2 ^ (pl - e)) (Nat.le_trans (Nat.sub_le _ _) hkB)
  refine ⟨r, hr.trans ?_⟩
  unfold W
  rw [hk, hp, ← Nat.mul_assoc, ← Nat.sub_mul]

/-- Subtraction of a whole number is exact. -/
theorem sub_exact {x : Nat} {n b : Int} (hx : Nn x) (hb0 : 0 ≤ b) (hb : b ≤ 9007199254740992) (hxb : rg x ≤ rg (floatOfInt .f64 b)) (hn0 : 0 ≤ n) (hn : n ≤ 9007199254740992) (hle : rg (floatOfInt .f64 n) ≤ rg x) :
    ∃ z, Ieee.double.sub x (floatOfInt .f64 n) = some z ∧ Nn z ∧ U (rg z) + W n = U (rg x) ∧ rg z ≤ rg x ∧ rg z < II := by
  obtain ⟨fb, ub⟩ := ofI_exact hb0 hb
  obtain ⟨fn, un⟩ := ofI_exact hn0 hn
  obtain ⟨z, hz, nz, rz⟩ := sub_fin hx (ofI_nn hn0).1 (by omega) hle
  have hu : U (rg x) ≤ 2 ^ 53 * 2 ^ pl := by
    have := (U_le_iff _ _).2 hxb
    rw [ub] at this
    exact Nat.le_trans this (Nat.mul_le_mul_right _ (by omega))
  have hle' := (U_le_iff _ _).2 hle
  rw [un] at hle' rz
  obtain ⟨k, e, hk, he, hkB⟩ := coarse hu
  obtain ⟨r, hr'⟩ := rung_diff (n := n) hk he hkB
  have hrx : r ≤ rg x := (U_le_iff _ _).1 (by rw [hr']; exact Nat.sub_le _ _)
  rw [← hr', rndU_exact, Nat.min_eq_left (by omega)] at rz
  exact ⟨z, hz, nz, by rw [rz, hr']; exact Nat.sub_add_cancel hle', by omega, by omega⟩

/-- .. and what was subtracted may be added again. -/
theorem add_back {z t : Nat} {n : Int} (hz : Nn z) (hn0 : 0 ≤ n) (hn : n ≤ 9007199254740992) (ht : rg t < II) (hzt : rg z ≤ rg t) (h : U (rg z) + W n = U (rg t)) :
    ∃ y, Ieee.double.add z (floatOfInt .f64 n) = some y ∧ Nn y ∧ rg y = rg t := by
  obtain ⟨fn, un⟩ := ofI_exact hn0 hn
  obtain ⟨y, hy, ny, ry⟩ := add_fin hz (ofI_nn hn0).1 (by omega) fn
  refine ⟨y, hy, ny, ?_⟩
  rw [ry, un, h, rndU_exact]
  omega

theorem W_add {a b : Int} (ha : 0 ≤ a) (hb : 0 ≤ b) : W (a + b) = W a + W b := by
  unfold W; rw [← Nat.add_mul]; congr 1; omega
theorem le_W {x : Nat} {n : Int} (hn0 : 0 ≤ n) (hn : n ≤ 9007199254740992) : rg (floatOfInt .f64 n) ≤ rg x ↔ W n ≤ U (rg x) := by
  rw [← (ofI_exact hn0 hn).2]; exact (U_le_iff _ _).symm
theorem W_mono {a b : Int} (ha : 0 ≤ a) (h : a < b) : W a < W b := Nat.mul_lt_mul_of_pos_right (by omega) (Nat.two_pow_pos _)

/-! What may be any number that is not negative. -/
theorem div_nn {x y : Nat} (hx : Nn x) (hy : Nn y) (fx : rg x < II) (fy : rg y < II) (hp : 0 < rg y) : ∃ z, Ieee.double.div x y = some z ∧ Nn z := by
  obtain ⟨s, m, i, e1, hs, hi, v1⟩ := read_num hx fx
  obtain ⟨t, n, j, e2, ht, hj, v2⟩ := read_num hy fy
  have hn : n ≠ 0 := by
    intro h; subst h
    rw [Nat.zero_mul] at v2
    have := (U_lt_iff 0 (rg y)).2 hp
    omega
  have htf : t = false := by
    cases t
    · rfl
    · exact absurd (ht rfl) hn
  subst htf
  refine ⟨_, ?_, (write_pos (s ^^ false) (2 * ((m <<< (Ieee.double.fractionBits + 2 + n.log2 - m.log2)) / n) + ((m <<< (Ieee.double.fractionBits + 2 + n.log2 - m.log2)) % n != 0).toNat) (i - j - (Ieee.double.fractionBits + 2 + n.log2 - m.log2 : Nat) - 1) ?_).1⟩
  · unfold Ieee.Format.div
    rw [e1, e2]
    simp only [Ieee.Datum.quotient]
    rw [if_neg hn]
    rfl
  · intro h
    have hm : m = 0 := hs (by simpa using h)
    subst hm
    simp

theorem add_nn {x y : Nat} (hx : Nn x) (hy : Nn y) : ∃ z, Ieee.double.add x y = some z ∧ Nn z ∧ rg x ≤ rg z ∧ rg y ≤ rg z := by
  have nI : Nn II := .inl (Nat.le_refl _)
  have rI : rg II = II := Fl.rg_le (Nat.le_refl _)
  have bx := hx.rg_le
  have b_y := hy.rg_le
  rcases hy.cases with fy | fy
  · rcases hx.cases with fx | fx
    · obtain ⟨z, e, nz, rz⟩ := add_fin hx hy fx fy
      refine ⟨z, e, nz, ?_, ?_⟩
      · have := rndU_mono (a := U (rg x)) (b := U (rg x) + U (rg y)) (by omega)
        rw [rndU_exact] at this
        omega
      · have := rndU_mono (a := U (rg y)) (b := U (rg x) + U (rg y)) (by omega)
        rw [rndU_exact] at this
        omega
    · subst fx
      exact ⟨II, inf_add hy fy, nI, by omega, by omega⟩
  · subst fy
    exact ⟨II, add_inf hx, nI, by omega, by omega⟩

theorem mul_nn {x y : Nat} (hx : Nn x) (hy : Nn y) (fy : rg y < II) (hp : 0 < rg y) : ∃ z, Ieee.double.mul x y = some z ∧ Nn z ∧ (∀ x' z', Nn x' → rg x' ≤ rg x → Ieee.double.mul x' y = some z' → rg z' ≤ rg z) := by
  have nI : Nn II := .inl (Nat.le_refl _)
  have rI : rg II = II := Fl.rg_le (Nat.le_refl _)
  have tot : ∀ x' z', Nn x' → Ieee.double.mul x' y = some z' → rg z' ≤ II := by
    intro x' z' nx' e'
    rcases nx'.cases with f | f
    · obtain ⟨u, eu, nu, _⟩ := mul_fin nx' hy f fy
      rw [e'] at eu
      cases eu
      exact nu.rg_le
    · subst f
      rw [inf_mul hy fy hp] at e'
      cases e'
      omega
  rcases hx.cases with fx | fx
  · obtain ⟨z, e, nz, rz⟩ := mul_fin hx hy fx fy
    refine ⟨z, e, nz, ?_⟩
    intro x' z' nx' hle e'
    obtain ⟨u, eu, nu, ru⟩ := mul_fin nx' hy (by omega) fy
    rw [e'] at eu
    cases eu
    have := rndP_mono (a := U (rg x')) (a' := U (rg x)) (b := U (rg y)) ((U_le_iff _ _).2 hle)
    omega
  · subst fx
    refine ⟨II, inf_mul hy fy hp, nI, ?_⟩
    intro x' z' nx' hle e'
    rw [rI]
    exact tot x' z' nx' e'

end Go.Proofs.Qxb6632356a.Fl
