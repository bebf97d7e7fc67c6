import Ieee.Arith
namespace Go.Proofs.Qxb6632356a.Fl

/-! The value of a rung, in units of the least subnormal; B: the rungs of a binade. -/
def V (B r : Nat) : Nat := if r < B then r else (B + r % B) * 2 ^ (r / B - 1)

theorem V_form (B : Nat) (hB : 0 < B) (e k : Nat) (hk : k ≤ 2 * B) (hn : B ≤ k ∨ e = 0) : V B (e * B + k) = k * 2 ^ e := by
  unfold V
  by_cases h1 : k < B
  · rcases hn with h | rfl
    · omega
    · rw [if_pos (by omega)]; simp
  · have hge : B ≤ e * B + k := by omega
    rw [if_neg (by omega)]
    by_cases h2 : k < 2 * B
    · have ek : e * B + k = (k - B) + B * (e + 1) := by rw [Nat.mul_add, Nat.mul_comm B e]; omega
      rw [ek, Nat.add_mul_mod_self_left, Nat.add_mul_div_left _ _ hB, Nat.mod_eq_of_lt (by omega), Nat.div_eq_of_lt (by omega)]
      rw [show B + (k - B) = k by omega, show 0 + (e + 1) - 1 = e by omega]
    · obtain rfl : k = 2 * B := by omega
      have ek : e * B + 2 * B = 0 + B * (e + 2) := by rw [Nat.mul_add, Nat.mul_comm B e]; omega
      rw [ek, Nat.add_mul_mod_self_left, Nat.add_mul_div_left _ _ hB, Nat.mod_eq_of_lt hB, Nat.div_eq_of_lt hB]
      rw [show 0 + (e + 2) - 1 = e + 1 by omega, Nat.pow_succ, Nat.add_zero, Nat.mul_comm 2 B, Nat.mul_assoc, Nat.mul_comm 2 (2 ^ e)]

/-- Every rung in its normal form. -/
theorem normal (B : Nat) (hB : 0 < B) (r : Nat) : ∃ e k, r = e * B + k ∧ k < 2 * B ∧ (B ≤ k ∨ e = 0) := by
  by_cases h : r < B
  · exact ⟨0, r, by omega, by omega, .inr rfl⟩
  · have hd := Nat.div_add_mod r B
    have hm := Nat.mod_lt r hB
    have hq : 1 ≤ r / B := Nat.div_pos (by omega) hB
    refine ⟨r / B - 1, B + r % B, ?_, by omega, .inl (by omega)⟩
    have : (r / B - 1) * B + B = B * (r / B) := by
      rw [Nat.sub_mul, Nat.one_mul, Nat.mul_comm]
      have : B * 1 ≤ B * (r / B) := Nat.mul_le_mul_left B hq
      omega
    omega

theorem V_succ (B : Nat) (hB : 0 < B) (r : Nat) : V B r < V B (r + 1) := by
  obtain ⟨e, k, rfl, hk, hn⟩ := normal B hB r
  rw [V_form B hB e k (by omega) hn, Nat.add_assoc, V_form B hB e (k + 1) (by omega) (by omega)]
  exact Nat.mul_lt_mul_of_pos_right (by omega) (Nat.two_pow_pos e)

theorem V_lt (B : Nat) (hB : 0 < B) : ∀ s r, r < s → V B r < V B s := by
  intro s
  induction s with
  | zero => intro r h; omega
  | succ s ih =>
    intro r h
    by_cases e : r = s
    · rw [e]; exact V_succ B hB s
    · exact Nat.lt_trans (ih r (by omega)) (V_succ B hB s)

theorem V_le (B : Nat) (hB : 0 < B) (r s : Nat) (h : r ≤ s) : V B r ≤ V B s := by
  by_cases e : r = s
  · rw [e]; exact Nat.le_refl _
  · exact Nat.le_of_lt (V_lt B hB s r (by omega))

theorem V_inj (B : Nat) (hB : 0 < B) (r s : Nat) (h : V B r = V B s) : r = s := by
  rcases Nat.lt_trichotomy r s with h1 | h1 | h1
  · have := V_lt B hB s r h1; omega
  · exact h1
  · have := V_lt B hB r s h1; omega

theorem V_le_iff (B : Nat) (hB : 0 < B) (r s : Nat) : V B r ≤ V B s ↔ r ≤ s := by
  constructor
  · intro h
    rcases Nat.lt_or_ge s r with h1 | h1
    · have := V_lt B hB r s h1; omega
    · exact h1
  · exact V_le B hB r s

theorem V_zero (B : Nat) (hB : 0 < B) : V B 0 = 0 := by unfold V; rw [if_pos hB]

/-- Every multiple k * 2 ^ e with k at most 2 B is a rung's value. -/
theorem rung_of (B : Nat) (hB : 0 < B) (e k : Nat) (hk : k ≤ 2 * B) : ∃ r, V B r = k * 2 ^ e := by
  induction e generalizing k with
  | zero => exact ⟨k, by have := V_form B hB 0 k hk (.inr rfl); simpa using this⟩
  | succ e ih =>
    by_cases h : B ≤ k
    · exact ⟨(e + 1) * B + k, V_form B hB (e + 1) k hk (.inl h)⟩
    · obtain ⟨r, hr⟩ := ih (2 * k) (by omega)
      exact ⟨r, by rw [hr, Nat.pow_succ, Nat.mul_comm 2 k, Nat.mul_assoc, Nat.mul_comm 2 (2 ^ e)]⟩

/-! Rounding to the nearest rung, ties to the even one. X / 2 ^ K is what is rounded. -/
structure Near (B K X R : Nat) : Prop where
  up : 2 * X ≤ (V B R + V B (R + 1)) * 2 ^ K
  upE : 2 * X = (V B R + V B (R + 1)) * 2 ^ K → R % 2 = 0
  dn : 0 < R → (V B (R - 1) + V B R) * 2 ^ K ≤ 2 * X
  dnE : 0 < R → (V B (R - 1) + V B R) * 2 ^ K = 2 * X → R % 2 = 0

theorem Near.zero (B K : Nat) (hB : 0 < B) : Near B K 0 0 := by
  have h := V_succ B hB 0
  refine ⟨Nat.zero_le _, fun _ => rfl, fun h => by omega, fun h => by omega⟩

theorem Near.mono {B K X Y R S : Nat} (hB : 0 < B) (h : Near B K X R) (k : Near B K Y S) (hXY : X ≤ Y) : R ≤ S := by
  rcases Nat.lt_or_ge S R with hlt | hge
  · exfalso
    have h1 := k.up
    have h2 := h.dn (by omega)
    have v1 : V B S ≤ V B (R - 1) := V_le B hB _ _ (by omega)
    have v2 : V B (S + 1) ≤ V B R := V_le B hB _ _ (by omega)
    have v3 : (V B S + V B (S + 1)) * 2 ^ K ≤ (V B (R - 1) + V B R) * 2 ^ K := Nat.mul_le_mul_right _ (by omega)
    have e1 : 2 * Y = (V B S + V B (S + 1)) * 2 ^ K := by omega
    have e2 : (V B (R - 1) + V B R) * 2 ^ K = 2 * X := by omega
    have e3 : (V B S + V B (S + 1)) * 2 ^ K = (V B (R - 1) + V B R) * 2 ^ K := by omega
    have e4 := Nat.eq_of_mul_eq_mul_right (Nat.two_pow_pos K) e3
    have e5 : R - 1 = S := V_inj B hB _ _ (by omega)
    have p1 := k.upE e1
    have p2 := h.dnE (by omega) e2
    omega
  · exact hge

theorem Near.exact {B K r R : Nat} (hB : 0 < B) (h : Near B K (V B r * 2 ^ K) R) : R = r := by
  have hp := Nat.two_pow_pos K
  rcases Nat.lt_trichotomy R r with h1 | h1 | h1
  · exfalso
    have h2 := h.up
    have v1 : V B R < V B r := V_lt B hB r R h1
    have v2 : V B (R + 1) ≤ V B r := V_le B hB _ _ h1
    have : (V B R + V B (R + 1)) * 2 ^ K < (V B r + V B r) * 2 ^ K := Nat.mul_lt_mul_of_pos_right (by omega) hp
    have e : (V B r + V B r) * 2 ^ K = 2 * (V B r * 2 ^ K) := by rw [Nat.add_mul]; omega
    omega
  · exact h1
  · exfalso
    have h2 := h.dn (by omega)
    have v1 : V B r ≤ V B (R - 1) := V_le B hB _ _ (by omega)
    have v2 : V B r < V B R := V_lt B hB R r h1
    have : (V B r + V B r) * 2 ^ K < (V B (R - 1) + V B R) * 2 ^ K := Nat.mul_lt_mul_of_pos_right (by omega) hp
    have e : (V B r + V B r) * 2 ^ K = 2 * (V B r * 2 ^ K) := by rw [Nat.add_mul]; omega
    omega

/-- What 'cut' does: c is n / 2 ^ drop, to the nearest whole number, ties to the even one. -/
theorem cut_spec (neg : Bool) (n drop : Nat) : ∃ c, Ieee.Toward.even.cut neg n drop = c ∧ 2 * c * 2 ^ drop ≤ 2 * n + 2 ^ drop ∧ 2 * n ≤ 2 * c * 2 ^ drop + 2 ^ drop ∧
    (2 * n = 2 * c * 2 ^ drop + 2 ^ drop → c % 2 = 0) ∧ (2 * c * 2 ^ drop = 2 * n + 2 ^ drop → c % 2 = 0) := by
  refine ⟨_, rfl, ?_⟩
  unfold Ieee.Toward.cut
  simp only [Nat.one_shiftLeft]
  by_cases hd : drop ≤ n.log2 + 2
  · rw [Nat.min_eq_left hd]
    generalize hG : 2 ^ drop = G
    have hGp : 0 < G := by rw [← hG]; exact Nat.two_pow_pos _
    have hdm := Nat.div_add_mod n G
    have hm := Nat.mod_lt n hGp
    generalize n / G = low at *
    generalize n % G = rest at *
    subst hdm
    have e1 : ∀ c, 2 * c * G = 2 * (G * c) := fun c => by rw [Nat.mul_comm G c, Nat.mul_assoc]
    by_cases h1 : G < 2 * rest
    · have hb : (decide (G < 2 * rest) || (G == 2 * rest && low % 2 == 1)) = true := by simp [h1]
      rw [hb]
      simp only [Bool.toNat_true]
      rw [e1, Nat.mul_add G low 1, Nat.mul_one]
      refine ⟨by omega, by omega, fun h => by omega, fun h => by omega⟩
    · by_cases h2 : G = 2 * rest
      · by_cases h3 : low % 2 = 1
        · have hb : (decide (G < 2 * rest) || (G == 2 * rest && low % 2 == 1)) = true := by simp [← h2, h3]
          rw [hb]
          simp only [Bool.toNat_true]
          rw [e1, Nat.mul_add G low 1, Nat.mul_one]
          refine ⟨by omega, by omega, fun h => by omega, fun h => by omega⟩
        · have hb : (decide (G < 2 * rest) || (G == 2 * rest && low % 2 == 1)) = false := by simp [← h2, h3]
          rw [hb]
          simp only [Bool.toNat_false, Nat.add_zero]
          rw [e1]
          refine ⟨by omega, by omega, fun h => by omega, fun h => by omega⟩
      · have hb : (decide (G < 2 * rest) || (G == 2 * rest && low % 2 == 1)) = false := by simp [h1, h2]
        rw [hb]
        simp only [Bool.toNat_false, Nat.add_zero]
        rw [e1]
        refine ⟨by omega, by omega, fun h => by omega, fun h => by omega⟩
  · rw [Nat.min_eq_right (by omega)]
    have hn : n < 2 ^ (n.log2 + 1) := Nat.lt_log2_self
    have hp : 2 ^ (n.log2 + 2) = 2 * 2 ^ (n.log2 + 1) := by rw [Nat.pow_succ]; omega
    have hq : 2 ^ (n.log2 + 2) ≤ 2 ^ drop := Nat.pow_le_pow_right (by omega) (by omega)
    rw [Nat.div_eq_of_lt (by omega), Nat.mod_eq_of_lt (by omega)]
    have hb : (decide (2 ^ (n.log2 + 2) < 2 * n) || (2 ^ (n.log2 + 2) == 2 * n && 0 % 2 == 1)) = false := by
      simp
      omega
    rw [hb]
    simp only [Bool.toNat_false, Nat.add_zero]
    refine ⟨by omega, by omega, fun _ => trivial, fun _ => trivial⟩

/-- The cut, told in whatever unit: X / T is what is rounded, c what comes of it. -/
structure Cut (X T c : Nat) : Prop where
  lo : 2 * c * T ≤ 2 * X + T
  hi : 2 * X ≤ 2 * c * T + T
  hiE : 2 * X = 2 * c * T + T → c % 2 = 0
  loE : 2 * c * T = 2 * X + T → c % 2 = 0

theorem Cut.scale {n G c : Nat} (P : Nat) (hP : 0 < P) (s1 : 2 * c * G ≤ 2 * n + G) (s2 : 2 * n ≤ 2 * c * G + G) (s3 : 2 * n = 2 * c * G + G → c % 2 = 0) (s4 : 2 * c * G = 2 * n + G → c % 2 = 0) : Cut (n * P) (G * P) c := by
  have e1 : 2 * c * (G * P) = 2 * c * G * P := by rw [Nat.mul_assoc (2 * c) G P]
  have e2 : 2 * (n * P) = 2 * n * P := by rw [Nat.mul_assoc]
  refine ⟨?_, ?_, fun h => s3 ?_, fun h => s4 ?_⟩
  · rw [e1, e2, ← Nat.add_mul]; exact Nat.mul_le_mul_right P s1
  · rw [e1, e2, ← Nat.add_mul]; exact Nat.mul_le_mul_right P s2
  · rw [e1, e2, ← Nat.add_mul] at h; exact Nat.eq_of_mul_eq_mul_right hP h
  · rw [e1, e2, ← Nat.add_mul] at h; exact Nat.eq_of_mul_eq_mul_right hP h

theorem Cut.whole (c T : Nat) (hT : 0 < T) : Cut (c * T) T c := by
  have e : 2 * c * T = 2 * (c * T) := Nat.mul_assoc 2 c T
  refine ⟨by omega, by omega, fun h => by omega, fun h => by omega⟩

theorem low_sum (c e K : Nat) (h : 1 ≤ c) : ((c - 1) * 2 ^ e + c * 2 ^ e) * 2 ^ K + 2 ^ (e + K) = 2 * c * 2 ^ (e + K) := by
  obtain ⟨d, rfl⟩ : ∃ d, c = d + 1 := ⟨c - 1, by omega⟩
  rw [Nat.add_sub_cancel, Nat.pow_add]
  simp only [Nat.add_mul, Nat.mul_add, Nat.one_mul, Nat.mul_assoc]
  omega

/-- From the cut to the rung. -/
theorem Near.ofCut {B K X e c : Nat} (hB : 0 < B) (hB2 : B % 2 = 0) (h : Cut X (2 ^ (e + K)) c) (hc : c ≤ 2 * B) (hn : e = 0 ∨ (B ≤ c ∧ B * 2 ^ (e + K) ≤ X)) : Near B K X (e * B + c) := by
  have hT : 2 ^ (e + K) = 2 ^ e * 2 ^ K := Nat.pow_add 2 e K
  have hpar : (e * B + c) % 2 = c % 2 := by
    have : (e * B) % 2 = 0 := by rw [Nat.mul_mod, hB2]; simp
    omega
  have hV := V_form B hB e c hc (by omega)
  have hV1 : (c + 1) * 2 ^ e ≤ V B (e * B + c + 1) := by
    by_cases h2 : c + 1 ≤ 2 * B
    · rw [Nat.add_assoc, V_form B hB e (c + 1) h2 (by omega)]; exact Nat.le_refl _
    · have := V_succ B hB (e * B + c)
      have e1 : e * B + c + 1 = (e + 1) * B + (B + 1) := by rw [Nat.add_mul, Nat.one_mul]; omega
      rw [e1, V_form B hB (e + 1) (B + 1) (by omega) (by omega), Nat.pow_succ]
      have : (c + 1) * 2 ^ e ≤ (2 * (B + 1)) * 2 ^ e := Nat.mul_le_mul_right _ (by omega)
      have e2 : (B + 1) * (2 ^ e * 2) = (2 * (B + 1)) * 2 ^ e := by rw [Nat.mul_comm (2 ^ e) 2, ← Nat.mul_assoc, Nat.mul_comm (B + 1) 2]
      omega
  have hs : 2 * c * 2 ^ (e + K) + 2 ^ (e + K) = (c * 2 ^ e + (c + 1) * 2 ^ e) * 2 ^ K := by
    rw [hT, ← Nat.add_mul, Nat.mul_assoc (c + (c + 1)) (2 ^ e) (2 ^ K)]
    have : 2 * c * (2 ^ e * 2 ^ K) + 2 ^ e * 2 ^ K = (2 * c + 1) * (2 ^ e * 2 ^ K) := by rw [Nat.add_mul, Nat.one_mul]
    rw [this]; congr 1; omega
  have hle : (c * 2 ^ e + (c + 1) * 2 ^ e) * 2 ^ K ≤ (V B (e * B + c) + V B (e * B + c + 1)) * 2 ^ K := Nat.mul_le_mul_right _ (by rw [hV]; omega)
  refine ⟨?_, ?_, ?_, ?_⟩
  · have := h.hi; omega
  · intro h1
    rw [hpar]
    refine h.hiE ?_
    have := h.hi; omega
  · intro hR
    by_cases hx : 1 ≤ c ∧ (B ≤ c - 1 ∨ e = 0)
    · have e1 : e * B + c - 1 = e * B + (c - 1) := by omega
      rw [e1, V_form B hB e (c - 1) (by omega) (by omega), hV]
      have hl := h.lo
      have e2 := low_sum c e K hx.1
      omega
    · have he : e ≠ 0 := by
        intro he; subst he; simp at hR; omega
      have hcB : c = B ∧ B * 2 ^ (e + K) ≤ X := by omega
      obtain ⟨rfl, hX⟩ := hcB
      have v1 := V_le c hB (e * c + c - 1) (e * c + c) (by omega)
      have : (V c (e * c + c - 1) + V c (e * c + c)) * 2 ^ K ≤ (2 * (c * 2 ^ e)) * 2 ^ K := Nat.mul_le_mul_right _ (by omega)
      have e3 : (2 * (c * 2 ^ e)) * 2 ^ K = 2 * (c * 2 ^ (e + K)) := by rw [hT, Nat.mul_assoc, Nat.mul_assoc]
      omega
  · intro hR h1
    rw [hpar]
    by_cases hx : 1 ≤ c ∧ (B ≤ c - 1 ∨ e = 0)
    · refine h.loE ?_
      have e1 : e * B + c - 1 = e * B + (c - 1) := by omega
      rw [e1, V_form B hB e (c - 1) (by omega) (by omega), hV] at h1
      have e2 := low_sum c e K hx.1
      omega
    · exfalso
      have he : e ≠ 0 := by
        intro he; subst he; simp at hR; omega
      have hcB : c = B ∧ B * 2 ^ (e + K) ≤ X := by omega
      obtain ⟨rfl, hX⟩ := hcB
      have v1 := V_lt c hB (e * c + c) (e * c + c - 1) (by omega)
      have : (V c (e * c + c - 1) + V c (e * c + c)) * 2 ^ K < (2 * (c * 2 ^ e)) * 2 ^ K := Nat.mul_lt_mul_of_pos_right (by omega) (Nat.two_pow_pos K)
      have e3 : (2 * (c * 2 ^ e)) * 2 ^ K = 2 * (c * 2 ^ (e + K)) := by rw [hT, Nat.mul_assoc, Nat.mul_assoc]
      omega

/-! The format 'double'. -/
def BB : Nat := 4503599627370496
theorem BB_pow : BB = 2 ^ 52 := by decide
theorem BB_pos : 0 < BB := by decide
theorem BB_even : BB % 2 = 0 := by decide

/-- The rung nearest to m * 2 ^ p, infinity not looked at. -/
def rnd (m : Nat) (p : Int) : Nat :=
  if m = 0 then 0 else
    (max (p + m.log2 - 52) (-1074) + 1074).toNat * BB + Ieee.Toward.even.cut false (m <<< (p - max (p + m.log2 - 52) (-1074)).toNat) (max (p + m.log2 - 52) (-1074) - p).toNat

theorem nearest_eq (m : Nat) (p : Int) : Ieee.double.nearest false m p = min (rnd m p) Ieee.double.infRung := by
  unfold Ieee.Format.nearest rnd
  by_cases h : m = 0
  · rw [if_pos h, if_pos h]
    simp [Ieee.Format.word]
  · rw [if_neg h, if_neg h]
    have e1 : Ieee.double.leastPlace = -1074 := by decide
    have e2 : Ieee.double.binade = BB := by decide
    have e3 : (Ieee.double.fractionBits : Int) = 52 := rfl
    simp only [Ieee.Format.word, e1, e2, e3]
    simp only [Bool.false_eq_true, if_false]
    rw [show max (p + (m.log2 : Int) - 52) (-1074) - -1074 = max (p + (m.log2 : Int) - 52) (-1074) + 1074 by omega]

theorem near_rnd (m : Nat) (p : Int) (K : Nat) (hK : 0 ≤ p + 1074 + K) : Near BB K (m * 2 ^ (p + 1074 + K).toNat) (rnd m p) := by
  unfold rnd
  by_cases h : m = 0
  · rw [if_pos h, h, Nat.zero_mul]; exact Near.zero BB K BB_pos
  · rw [if_neg h]
    have hL1 : 2 ^ m.log2 ≤ m := Nat.log2_self_le h
    have hL2 : m < 2 ^ (m.log2 + 1) := Nat.lt_log2_self
    generalize m.log2 = L at *
    generalize hlast : max (p + (L : Int) - 52) (-1074) = last
    have hl1 : -1074 ≤ last := by omega
    have hl2 : p + (L : Int) - 52 ≤ last := by omega
    obtain ⟨c, hc, s1, s2, s3, s4⟩ := cut_spec false (m <<< (p - last).toNat) (last - p).toNat
    rw [hc]
    generalize hq : (p + 1074 + (K : Int)).toNat = q
    generalize he : (last + 1074).toNat = e
    -- the cut in the unit 2 ^ (e + K)
    have hcut : Cut (m * 2 ^ q) (2 ^ (e + K)) c := by
      by_cases hp : p < last
      · have e0 : (p - last).toNat = 0 := by omega
        rw [e0, Nat.shiftLeft_zero] at s1 s2 s3 s4
        have ed : (last - p).toNat + q = e + K := by omega
        have := Cut.scale (2 ^ q) (Nat.two_pow_pos q) s1 s2 s3 s4
        rwa [← Nat.pow_add, ed] at this
      · have e0 : (last - p).toNat = 0 := by omega
        rw [e0] at s1 s2
        have hcn : c = m <<< (p - last).toNat := by simp at s1 s2; omega
        have eq : q = (p - last).toNat + (e + K) := by omega
        have : m * 2 ^ q = c * 2 ^ (e + K) := by rw [hcn, Nat.shiftLeft_eq, eq, Nat.pow_add, ← Nat.mul_assoc]
        rw [this]
        exact Cut.whole c _ (Nat.two_pow_pos _)
    have hTp := Nat.two_pow_pos (e + K)
    -- how large it is
    have hup : m * 2 ^ q < 2 * BB * 2 ^ (e + K) := by
      have h1 : m * 2 ^ q < 2 ^ (L + 1) * 2 ^ q := Nat.mul_lt_mul_of_pos_right hL2 (Nat.two_pow_pos q)
      rw [← Nat.pow_add] at h1
      have h2 : 2 ^ (L + 1 + q) ≤ 2 ^ (53 + (e + K)) := Nat.pow_le_pow_right (by omega) (by omega)
      have h3 : 2 ^ (53 + (e + K)) = 2 * BB * 2 ^ (e + K) := by rw [Nat.pow_add, BB_pow]
      omega
    have hc2 : c ≤ 2 * BB := by
      have h1 := hcut.lo
      have h2 : 2 * c * 2 ^ (e + K) < (4 * BB + 1) * 2 ^ (e + K) := by
        have : (4 * BB + 1) * 2 ^ (e + K) = 2 * (2 * BB * 2 ^ (e + K)) + 2 ^ (e + K) := by rw [Nat.add_mul, Nat.one_mul, ← Nat.mul_assoc, ← Nat.mul_assoc]
        omega
      have := Nat.lt_of_mul_lt_mul_right h2
      omega
    refine Near.ofCut BB_pos BB_even hcut hc2 ?_
    by_cases he0 : e = 0
    · exact .inl he0
    · right
      have hX : BB * 2 ^ (e + K) ≤ m * 2 ^ q := by
        have h1 : 2 ^ L * 2 ^ q ≤ m * 2 ^ q := Nat.mul_le_mul_right _ hL1
        rw [← Nat.pow_add, show L + q = 52 + (e + K) by omega, Nat.pow_add, ← BB_pow] at h1
        exact h1
      refine ⟨?_, hX⟩
      have h1 := hcut.hi
      have h2 : 2 * BB * 2 ^ (e + K) ≤ (2 * c + 1) * 2 ^ (e + K) := by
        have e1 : (2 * c + 1) * 2 ^ (e + K) = 2 * c * 2 ^ (e + K) + 2 ^ (e + K) := by rw [Nat.add_mul, Nat.one_mul]
        have e2 : 2 * BB * 2 ^ (e + K) = 2 * (BB * 2 ^ (e + K)) := Nat.mul_assoc ..
        omega
      have := Nat.le_of_mul_le_mul_right h2 hTp
      omega

/-- Rounding keeps the order. -/
theorem rnd_mono (m n : Nat) (p q : Int) (K : Nat) (hp : 0 ≤ p + 1074 + K) (hq : 0 ≤ q + 1074 + K) (h : m * 2 ^ (p + 1074 + K).toNat ≤ n * 2 ^ (q + 1074 + K).toNat) : rnd m p ≤ rnd n q :=
  (near_rnd m p K hp).mono BB_pos (near_rnd n q K hq) h

/-- A rung's value is rounded to that rung. -/
theorem rnd_exact (m : Nat) (p : Int) (K r : Nat) (hp : 0 ≤ p + 1074 + K) (h : m * 2 ^ (p + 1074 + K).toNat = V BB r * 2 ^ K) : rnd m p = r :=
  Near.exact BB_pos (h ▸ near_rnd m p K hp)

end Go.Proofs.Qxb6632356a.Fl
