import Derived.Test.Qxb6632356aFloat
namespace Go.Proofs.Qxb6632356a.Fl

/-- The rung of infinity; the word of the negative zero. -/
def II : Nat := 9218868437227405312
def NZ : Nat := 9223372036854775808
theorem II_eq : Ieee.double.infRung = II := by decide
theorem NZ_eq : Ieee.double.signWeight = NZ := by decide
theorem II_BB : II = 2047 * BB := by decide
theorem II_lt_NZ : II < NZ := by decide
theorem BB_lt_II : BB < II := by decide

/-- Not negative, no NaN. -/
def Nn (x : Nat) : Prop := x ≤ II ∨ x = NZ
/-- The rung of such a word. -/
def rg (x : Nat) : Nat := if x = NZ then 0 else x
abbrev U (r : Nat) : Nat := V BB r

theorem rg_le {x : Nat} (h : x ≤ II) : rg x = x := by unfold rg; rw [if_neg]; intro e; subst e; have := II_lt_NZ; omega
theorem rg_NZ : rg NZ = 0 := by unfold rg; rw [if_pos rfl]
theorem Nn.rg_le {x : Nat} (h : Nn x) : rg x ≤ II := by
  rcases h with h | h
  · rw [Fl.rg_le h]; exact h
  · rw [h, rg_NZ]; exact Nat.zero_le _
theorem Nn.cases {x : Nat} (h : Nn x) : rg x < II ∨ x = II := by
  rcases h with h | h
  · rcases Nat.lt_or_ge x II with h1 | h1
    · left; rw [Fl.rg_le h]; exact h1
    · right; omega
  · left; rw [h, rg_NZ]; decide

theorem U_lt_iff (r s : Nat) : U r < U s ↔ r < s := by
  have := V_le_iff BB BB_pos s r
  show V BB r < V BB s ↔ r < s
  omega

/-- What a finite word that is not negative stands for. -/
theorem read_num {x : Nat} (h : Nn x) (hf : rg x < II) : ∃ s m p, Ieee.double.read x = .number s m p ∧ (s = true → m = 0) ∧ -1074 ≤ p ∧ m * 2 ^ (p + 1074).toNat = U (rg x) := by
  have hlp : Ieee.double.leastPlace = -1074 := by decide
  have hbi : Ieee.double.binade = BB := by decide
  rcases h with h | h
  · have hx : rg x = x := Fl.rg_le h
    rw [hx] at hf ⊢
    have hlt : x < NZ := Nat.lt_of_le_of_lt h II_lt_NZ
    unfold Ieee.Format.read
    simp only [NZ_eq, II_eq, hlp, hbi, Nat.div_eq_of_lt hlt, Nat.mod_eq_of_lt hlt]
    by_cases h1 : x < BB
    · rw [if_pos h1]
      refine ⟨_, _, _, rfl, ?_, Int.le_refl _, ?_⟩
      · intro h; simp at h
      · unfold U V; rw [if_pos h1]; simp
    · rw [if_neg h1, if_pos hf]
      refine ⟨_, _, _, rfl, ?_, by omega, ?_⟩
      · intro h; simp at h
      · unfold U V; rw [if_neg h1]
        congr 2
        omega
  · subst h
    rw [rg_NZ]
    refine ⟨true, 0, -1074, ?_, fun _ => rfl, Int.le_refl _, ?_⟩
    · decide
    · rw [Nat.zero_mul]; exact (V_zero BB BB_pos).symm

theorem read_inf : Ieee.double.read II = .infinity false := by decide

theorem signed_nat {s : Bool} {m : Nat} (h : s = true → m = 0) (u : Nat) : Ieee.signed s m u = ((m * 2 ^ u : Nat) : Int) := by
  unfold Ieee.signed
  cases s
  · simp [Nat.shiftLeft_eq]
  · rw [h rfl]; simp

theorem signed_opp {s : Bool} {m : Nat} (h : s = true → m = 0) (u : Nat) : Ieee.signed (!s) m u = -((m * 2 ^ u : Nat) : Int) := by
  unfold Ieee.signed
  cases s
  · simp [Nat.shiftLeft_eq]
  · rw [h rfl]; simp

/-- What is written out of a number that is not negative. -/
theorem write_pos (s : Bool) (m : Nat) (p : Int) (h : s = true → m = 0) : Nn (Ieee.double.write (.number s m p)) ∧ rg (Ieee.double.write (.number s m p)) = min (rnd m p) II := by
  show Nn (Ieee.double.nearest s m p) ∧ rg (Ieee.double.nearest s m p) = _
  cases s
  · rw [nearest_eq, II_eq]
    exact ⟨.inl (Nat.min_le_right _ _), Fl.rg_le (Nat.min_le_right _ _)⟩
  · have hm := h rfl
    subst hm
    have e : Ieee.double.nearest true 0 p = NZ := by
      unfold Ieee.Format.nearest
      rw [if_pos rfl]
      decide
    rw [e, rg_NZ]
    exact ⟨.inr rfl, by unfold rnd; simp⟩

/-- Rounding hangs on the value alone. -/
theorem rnd_congr (m n : Nat) (p q : Int) (K : Nat) (hp : 0 ≤ p + 1074 + K) (hq : 0 ≤ q + 1074 + K) (h : m * 2 ^ (p + 1074 + K).toNat = n * 2 ^ (q + 1074 + K).toNat) : rnd m p = rnd n q :=
  Nat.le_antisymm (rnd_mono m n p q K hp hq (Nat.le_of_eq h)) (rnd_mono n m q p K hq hp (Nat.le_of_eq h.symm))

/-- The rung nearest to S least units. -/
def rndU (S : Nat) : Nat := rnd S (-1074)
theorem rndU_mono {a b : Nat} (h : a ≤ b) : rndU a ≤ rndU b := rnd_mono a b _ _ 0 (by omega) (by omega) (Nat.mul_le_mul_right _ h)
theorem rndU_exact (r : Nat) : rndU (U r) = r := rnd_exact _ _ 0 r (by omega) (by simp)
theorem rnd_rndU {m : Nat} {p : Int} (hp : -1074 ≤ p) : rnd m p = rndU (m * 2 ^ (p + 1074).toNat) :=
  rnd_congr _ _ _ _ 0 (by omega) (by omega) (by simp)

/-- The two addends over a common place. -/
theorem over_base {m n : Nat} {i j : Int} (hi : -1074 ≤ i) (hj : -1074 ≤ j) : m * 2 ^ (i - min i j).toNat * 2 ^ (min i j + 1074).toNat = m * 2 ^ (i + 1074).toNat ∧ n * 2 ^ (j - min i j).toNat * 2 ^ (min i j + 1074).toNat = n * 2 ^ (j + 1074).toNat := by
  constructor
  · rw [Nat.mul_assoc, ← Nat.pow_add]; congr 2; omega
  · rw [Nat.mul_assoc, ← Nat.pow_add]; congr 2; omega

theorem add_fin {x y : Nat} (hx : Nn x) (hy : Nn y) (fx : rg x < II) (fy : rg y < II) : ∃ z, Ieee.double.add x y = some z ∧ Nn z ∧ rg z = min (rndU (U (rg x) + U (rg y))) II := by
  obtain ⟨s, m, i, e1, hs, hi, v1⟩ := read_num hx fx
  obtain ⟨t, n, j, e2, ht, hj, v2⟩ := read_num hy fy
  refine ⟨Ieee.double.write (.number (if (m * 2 ^ (i - min i j).toNat + n * 2 ^ (j - min i j).toNat = 0) then s && t else false) (m * 2 ^ (i - min i j).toNat + n * 2 ^ (j - min i j).toNat) (min i j)), ?_, ?_⟩
  · unfold Ieee.Format.add
    rw [e1, e2]
    simp only [Ieee.Datum.sum, signed_nat hs, signed_nat ht, Option.map_some]
    congr 3
    · generalize m * 2 ^ (i - min i j).toNat = a
      generalize n * 2 ^ (j - min i j).toNat = b
      by_cases h0 : a + b = 0
      · rw [if_pos h0, if_pos (by omega)]
      · rw [if_neg h0, if_neg (by omega)]
        simp; omega
  · obtain ⟨o1, o2⟩ := over_base (m := m) (n := n) hi hj
    generalize ha : m * 2 ^ (i - min i j).toNat = a at *
    generalize hb : n * 2 ^ (j - min i j).toNat = b at *
    have := write_pos (if a + b = 0 then s && t else false) (a + b) (min i j) (by
      intro h
      by_cases h0 : a + b = 0
      · exact h0
      · rw [if_neg h0] at h; cases h)
    refine ⟨this.1, ?_⟩
    rw [this.2, rnd_rndU (by omega), Nat.add_mul, o1, o2, v1, v2]

theorem add_inf {x : Nat} (hx : Nn x) : Ieee.double.add x II = some II := by
  have hw : Ieee.double.write (.infinity false) = II := by decide
  unfold Ieee.Format.add
  rw [read_inf]
  rcases hx.cases with hf | hf
  · obtain ⟨s, m, i, e1, _⟩ := read_num hx hf
    rw [e1]
    simp [Ieee.Datum.sum, hw]
  · rw [hf, read_inf]
    simp [Ieee.Datum.sum, hw]

theorem inf_add {x : Nat} (hx : Nn x) (hf : rg x < II) : Ieee.double.add II x = some II := by
  have hw : Ieee.double.write (.infinity false) = II := by decide
  unfold Ieee.Format.add
  rw [read_inf]
  obtain ⟨s, m, i, e1, _⟩ := read_num hx hf
  rw [e1]
  simp [Ieee.Datum.sum, hw]

theorem sub_fin {x y : Nat} (hx : Nn x) (hy : Nn y) (fx : rg x < II) (hle : rg y ≤ rg x) : ∃ z, Ieee.double.sub x y = some z ∧ Nn z ∧ rg z = min (rndU (U (rg x) - U (rg y))) II := by
  obtain ⟨s, m, i, e1, hs, hi, v1⟩ := read_num hx fx
  obtain ⟨t, n, j, e2, ht, hj, v2⟩ := read_num hy (by omega)
  have hUle : U (rg y) ≤ U (rg x) := V_le BB BB_pos _ _ hle
  obtain ⟨o1, o2⟩ := over_base (m := m) (n := n) hi hj
  have hab : n * 2 ^ (j - min i j).toNat ≤ m * 2 ^ (i - min i j).toNat := by
    refine Nat.le_of_mul_le_mul_right (c := 2 ^ (min i j + 1074).toNat) ?_ (Nat.two_pow_pos _)
    rw [o1, o2, v1, v2]; exact hUle
  refine ⟨Ieee.double.write (.number (if (m * 2 ^ (i - min i j).toNat - n * 2 ^ (j - min i j).toNat = 0) then s && !t else false) (m * 2 ^ (i - min i j).toNat - n * 2 ^ (j - min i j).toNat) (min i j)), ?_, ?_⟩
  · unfold Ieee.Format.sub
    rw [e1, e2]
    simp only [Ieee.Datum.sum, Ieee.Datum.opposite, signed_nat hs, signed_opp ht, Option.map_some]
    congr 3
    · generalize m * 2 ^ (i - min i j).toNat = a at *
      generalize n * 2 ^ (j - min i j).toNat = b at *
      by_cases h0 : a - b = 0
      · rw [if_pos h0, if_pos (by omega)]
      · rw [if_neg h0, if_neg (by omega)]
        simp; omega
    · generalize m * 2 ^ (i - min i j).toNat = a at *
      generalize n * 2 ^ (j - min i j).toNat = b at *
      omega
  · generalize ha : m * 2 ^ (i - min i j).toNat = a at *
    generalize hb : n * 2 ^ (j - min i j).toNat = b at *
    have := write_pos (if a - b = 0 then s && !t else false) (a - b) (min i j) (by
      intro h
      by_cases h0 : a - b = 0
      · exact h0
      · rw [if_neg h0] at h; cases h)
    refine ⟨this.1, ?_⟩
    rw [this.2, rnd_rndU (by omega), Nat.sub_mul, o1, o2, v1, v2]

/-- The rung nearest to a product. -/
def rndP (a b : Nat) : Nat := rnd (a * b) (-2148)
theorem rndP_mono {a a' b : Nat} (h : a ≤ a') : rndP a b ≤ rndP a' b := rnd_mono _ _ _ _ 1074 (by omega) (by omega) (Nat.mul_le_mul_right _ (Nat.mul_le_mul_right _ h))

theorem mul_fin {x y : Nat} (hx : Nn x) (hy : Nn y) (fx : rg x < II) (fy : rg y < II) : ∃ z, Ieee.double.mul x y = some z ∧ Nn z ∧ rg z = min (rndP (U (rg x)) (U (rg y))) II := by
  obtain ⟨s, m, i, e1, hs, hi, v1⟩ := read_num hx fx
  obtain ⟨t, n, j, e2, ht, hj, v2⟩ := read_num hy fy
  have hsg : (s ^^ t) = true → m * n = 0 := by
    intro h
    cases s
    · simp at h; rw [ht h]; simp
    · rw [hs rfl]; simp
  have := write_pos (s ^^ t) (m * n) (i + j) hsg
  refine ⟨_, ?_, this.1, ?_⟩
  · unfold Ieee.Format.mul
    rw [e1, e2]
    rfl
  · rw [this.2]
    congr 1
    refine rnd_congr _ _ _ _ 1074 (by omega) (by omega) ?_
    rw [← v1, ← v2]
    have e3 : (i + j + 1074 + (1074 : Nat)).toNat = (i + 1074).toNat + (j + 1074).toNat := by omega
    have e4 : (-2148 + 1074 + ((1074 : Nat) : Int)).toNat = 0 := by omega
    rw [e3, e4, Nat.pow_add, Nat.pow_zero, Nat.mul_one]
    generalize 2 ^ (i + 1074).toNat = a
    generalize 2 ^ (j + 1074).toNat = b
    rw [Nat.mul_assoc, Nat.mul_assoc]
    congr 1
    rw [← Nat.mul_assoc, ← Nat.mul_assoc, Nat.mul_comm n a]

theorem inf_mul {y : Nat} (hy : Nn y) (fy : rg y < II) (hp : 0 < rg y) : Ieee.double.mul II y = some II := by
  have hw : Ieee.double.write (.infinity false) = II := by decide
  obtain ⟨t, n, j, e2, ht, hj, v2⟩ := read_num hy fy
  have hn : n ≠ 0 := by
    intro h; subst h
    rw [Nat.zero_mul] at v2
    have := (U_lt_iff 0 (rg y)).2 hp
    omega
  have htf : t = false := by
    cases t
    · rfl
    · exact absurd (ht rfl) hn
  subst htf
  unfold Ieee.Format.mul
  rw [read_inf, e2]
  simp [Ieee.Datum.product, hn, hw]

/-- Order of words that are not negative. -/
theorem order_eq {x y : Nat} (hx : Nn x) (hy : Nn y) : Ieee.double.order x y = some (compare (rg x) (rg y)) := by
  unfold Ieee.Format.order
  rcases hx.cases with fx | fx
  · obtain ⟨s, m, i, e1, hs, hi, v1⟩ := read_num hx fx
    rcases hy.cases with fy | fy
    · obtain ⟨t, n, j, e2, ht, hj, v2⟩ := read_num hy fy
      rw [e1, e2]
      simp only [Ieee.Datum.order, signed_nat hs, signed_nat ht]
      obtain ⟨o1, o2⟩ := over_base (m := m) (n := n) hi hj
      rw [v1] at o1
      rw [v2] at o2
      have hp := Nat.two_pow_pos (min i j + 1074).toNat
      generalize m * 2 ^ (i - min i j).toNat = a at *
      generalize n * 2 ^ (j - min i j).toNat = b at *
      congr 1
      rcases Nat.lt_trichotomy (rg x) (rg y) with h | h | h
      · have hlt : a < b := by
          have := (U_lt_iff _ _).2 h
          rw [← o1, ← o2] at this
          exact Nat.lt_of_mul_lt_mul_right this
        rw [Nat.compare_eq_lt.2 h, Int.compare_eq_lt.2 (by omega)]
      · have he : a = b := by
          rw [h, ← o2] at o1
          exact Nat.eq_of_mul_eq_mul_right hp o1
        rw [Nat.compare_eq_eq.2 h, Int.compare_eq_eq.2 (by omega)]
      · have hlt : b < a := by
          have := (U_lt_iff _ _).2 h
          rw [← o1, ← o2] at this
          exact Nat.lt_of_mul_lt_mul_right this
        rw [Nat.compare_eq_gt.2 h, Int.compare_eq_gt.2 (by omega)]
    · subst fy
      rw [e1, read_inf]
      simp only [Ieee.Datum.order]
      rw [Fl.rg_le (Nat.le_refl II), Nat.compare_eq_lt.2 fx]
      rfl
  · subst fx
    rw [read_inf, Fl.rg_le (Nat.le_refl II)]
    rcases hy.cases with fy | fy
    · obtain ⟨t, n, j, e2, ht, hj, v2⟩ := read_num hy fy
      rw [e2]
      simp only [Ieee.Datum.order]
      rw [Nat.compare_eq_gt.2 fy]
      rfl
    · subst fy
      rw [read_inf, Fl.rg_le (Nat.le_refl II)]
      simp only [Ieee.Datum.order]
      rw [Nat.compare_eq_eq.2 rfl]
      rfl

end Go.Proofs.Qxb6632356a.Fl
