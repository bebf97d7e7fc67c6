import Derived.Test.Qxb6632322aGuards
namespace Go.Proofs.Qxb6632322a
open Go.RowKit
set_option linter.unusedVariables false

/-- What zzBytes tells: where it says yes, every string is short; the world stands. -/
def BytesOut (w : World) (l0 l1 : Nat) (s0 s1 : Nat → ByteArray) (e : Ending) (w' : World) : Prop :=
  ∃ b, e = .returned (.bool b) ∧ w' = w ∧ (b = true → (∀ t, t < l0 → (s0 t).size ≤ 1048576) ∧ ∀ t, t < l1 → (s1 t).size ≤ 1048576)

theorem BytesOut.no {w : World} {l0 l1 : Nat} {s0 s1 : Nat → ByteArray} : BytesOut w l0 l1 s0 s1 (.returned (.bool false)) w := ⟨false, rfl, rfl, fun h => by cases h⟩

set_option maxRecDepth 100000 in
set_option maxHeartbeats 1000000 in
theorem bytes4 (a0 a1 a2 a3 : Option Addr) (l0 c0 l1 c1 l2 c2 l3 c3 : Nat) (s0 s1 : Nat → ByteArray) (w : World)
    (r0 : Rd w a0 l0 (fun i => .string (s0 i))) (r1 : Rd w a1 l1 (fun i => .string (s1 i))) (h0 : l0 ≤ maxLen) (h1 : l1 ≤ maxLen) (h2 : l2 ≤ maxLen) (h3 : l3 ≤ maxLen)
    (q0 : ∀ i, (s0 i).size ≤ maxLen) (q1 : ∀ i, (s1 i).size ≤ maxLen) :
    Calls Try.prog 5 #[.slice a0 l0 c0, .slice a1 l1 c1, .slice a2 l2 c2, .slice a3 l3 c3] w (BytesOut w l0 l1 s0 s1) := by
  unfold maxLen at h0 h1 h2 h3 q0 q1
  have R0 := hide r0
  have R1 := hide r1
  have Q0 := hide q0
  have Q1 := hide q1
  clear r0 r1 q0 q1
  go_enter Try.func5, Try.ntmps5
  go_wp2
  any_goals (go_ret; exact BytesOut.no)
  go_loop [9, 10] (fun z i => ∃ k n : Nat, k ≤ l0 ∧ n ≤ 1048576 ∧ (∀ t, t < k → (s0 t).size ≤ 1048576) ∧ i = .int .i64 k ∧ z = .int .i64 n) (fun _ i => l0 - (intOf i).toNat)
  case atStart => exact ⟨0, l0, Nat.zero_le _, by omega, fun t h => by omega, rfl, rfl⟩
  case round =>
    obtain ⟨k, n, hk, hn, hal, rfl, rfl⟩ := hrel
    have HAL := hide hal
    clear hal
    by_cases hlt : k < l0
    · obtain ⟨b, off, ha, hbl, hc⟩ := (unhide R0) (by omega)
      subst ha
      have g1 : w.cell? ⟨b, off + k, none⟩ = some (.string (s0 k)) := hc k hlt
      have g2 := unhide Q0 k
      have step : Hid ((s0 k).size ≤ 1048576 → ∀ t, t < k + 1 → (s0 t).size ≤ 1048576) := fun h t ht => by
        by_cases e : t = k
        · rw [e]; exact h
        · exact unhide HAL t (by omega)
      generalize s0 k = s at g1 g2 step
      clear hc
      go_wp2
      any_goals (go_ret; exact BytesOut.no)
      go_round
      case rel => exact ⟨k + 1, n + s.size, by omega, by omega, unhide step (by omega), by go_num, by go_num⟩
      case measure => simp [intOf]; omega
    · go_wp2
      any_goals (go_ret; exact BytesOut.no)
      go_loop [9, 11] (fun z i => ∃ k n : Nat, k ≤ l1 ∧ n ≤ 1048576 ∧ (∀ t, t < k → (s1 t).size ≤ 1048576) ∧ i = .int .i64 k ∧ z = .int .i64 n) (fun _ i => l1 - (intOf i).toNat)
      case atStart => exact ⟨0, n + l1, Nat.zero_le _, by omega, fun t h => by omega, rfl, by go_num⟩
      case round =>
        obtain ⟨k2, n2, hk2, hn2, hal2, rfl, rfl⟩ := hrel
        have HAL2 := hide hal2
        clear hal2
        by_cases hlt2 : k2 < l1
        · obtain ⟨b, off, ha, hbl, hc⟩ := (unhide R1) (by omega)
          subst ha
          have g1 : w.cell? ⟨b, off + k2, none⟩ = some (.string (s1 k2)) := hc k2 hlt2
          have g2 := unhide Q1 k2
          have step : Hid ((s1 k2).size ≤ 1048576 → ∀ t, t < k2 + 1 → (s1 t).size ≤ 1048576) := fun h t ht => by
            by_cases e : t = k2
            · rw [e]; exact h
            · exact unhide HAL2 t (by omega)
          generalize s1 k2 = s at g1 g2 step
          clear hc
          go_wp2
          any_goals (go_ret; exact BytesOut.no)
          go_round
          case rel => exact ⟨k2 + 1, n2 + s.size, by omega, by omega, unhide step (by omega), by go_num, by go_num⟩
          case measure => simp [intOf]; omega
        · have fin : Hid ((∀ t, t < l0 → (s0 t).size ≤ 1048576) ∧ ∀ t, t < l1 → (s1 t).size ≤ 1048576) := ⟨fun t ht => unhide HAL t (by omega), fun t ht => unhide HAL2 t (by omega)⟩
          go_wp2
          all_goals (go_ret; first | exact BytesOut.no | exact ⟨true, rfl, rfl, fun _ => unhide fin⟩)

set_option maxRecDepth 100000 in
set_option maxHeartbeats 1000000 in
theorem bytes5 (a0 a1 a2 a3 : Option Addr) (l0 c0 l1 c1 l2 c2 l3 c3 : Nat) (cut : Int) (s0 s1 : Nat → ByteArray) (w : World)
    (r0 : Rd w a0 l0 (fun i => .string (s0 i))) (r1 : Rd w a1 l1 (fun i => .string (s1 i))) (h0 : l0 ≤ maxLen) (h1 : l1 ≤ maxLen) (h2 : l2 ≤ maxLen) (h3 : l3 ≤ maxLen)
    (q0 : ∀ i, (s0 i).size ≤ maxLen) (q1 : ∀ i, (s1 i).size ≤ maxLen) :
    Calls Try.prog 11 #[.slice a0 l0 c0, .slice a1 l1 c1, .slice a2 l2 c2,   .slice a3 l3 c3, .int .i64 cut] w (BytesOut w l0 l1 s0 s1) := by
  unfold maxLen at h0 h1 h2 h3 q0 q1
  have R0 := hide r0
  have R1 := hide r1
  have Q0 := hide q0
  have Q1 := hide q1
  clear r0 r1 q0 q1
  go_enter Try.func11, Try.ntmps11
  go_wp2
  any_goals (go_ret; exact BytesOut.no)
  go_loop [11, 12] (fun z i => ∃ k n : Nat, k ≤ l0 ∧ n ≤ 1048576 ∧ (∀ t, t < k → (s0 t).size ≤ 1048576) ∧ i = .int .i64 k ∧ z = .int .i64 n) (fun _ i => l0 - (intOf i).toNat)
  case atStart => exact ⟨0, l0, Nat.zero_le _, by omega, fun t h => by omega, rfl, rfl⟩
  case round =>
    obtain ⟨k, n, hk, hn, hal, rfl, rfl⟩ := hrel
    have HAL := hide hal
    clear hal
    by_cases hlt : k < l0
    · obtain ⟨b, off, ha, hbl, hc⟩ := (unhide R0) (by omega)
      subst ha
      have g1 : w.cell? ⟨b, off + k, none⟩ = some (.string (s0 k)) := hc k hlt
      have g2 := unhide Q0 k
      have step : Hid ((s0 k).size ≤ 1048576 → ∀ t, t < k + 1 → (s0 t).size ≤ 1048576) := fun h t ht => by
        by_cases e : t = k
        · rw [e]; exact h
        · exact unhide HAL t (by omega)
      generalize s0 k = s at g1 g2 step
      clear hc
      go_wp2
      any_goals (go_ret; exact BytesOut.no)
      go_round
      case rel => exact ⟨k + 1, n + s.size, by omega, by omega, unhide step (by omega), by go_num, by go_num⟩
      case measure => simp [intOf]; omega
    · go_wp2
      any_goals (go_ret; exact BytesOut.no)
      go_loop [11, 13] (fun z i => ∃ k n : Nat, k ≤ l1 ∧ n ≤ 1048576 ∧ (∀ t, t < k → (s1 t).size ≤ 1048576) ∧ i = .int .i64 k ∧ z = .int .i64 n) (fun _ i => l1 - (intOf i).toNat)
      case atStart => exact ⟨0, n + l1, Nat.zero_le _, by omega, fun t h => by omega, rfl, by go_num⟩
      case round =>
        obtain ⟨k2, n2, hk2, hn2, hal2, rfl, rfl⟩ := hrel
        have HAL2 := hide hal2
        clear hal2
        by_cases hlt2 : k2 < l1
        · obtain ⟨b, off, ha, hbl, hc⟩ := (unhide R1) (by omega)
          subst ha
          have g1 : w.cell? ⟨b, off + k2, none⟩ = some (.string (s1 k2)) := hc k2 hlt2
          have g2 := unhide Q1 k2
          have step : Hid ((s1 k2).size ≤ 1048576 → ∀ t, t < k2 + 1 → (s1 t).size ≤ 1048576) := fun h t ht => by
            by_cases e : t = k2
            · rw [e]; exact h
            · exact unhide HAL2 t (by omega)
          generalize s1 k2 = s at g1 g2 step
          clear hc
          go_wp2
          any_goals (go_ret; exact BytesOut.no)
          go_round
          case rel => exact ⟨k2 + 1, n2 + s.size, by omega, by omega, unhide step (by omega), by go_num, by go_num⟩
          case measure => simp [intOf]; omega
        · have fin : Hid ((∀ t, t < l0 → (s0 t).size ≤ 1048576) ∧ ∀ t, t < l1 → (s1 t).size ≤ 1048576) := ⟨fun t ht => unhide HAL t (by omega), fun t ht => unhide HAL2 t (by omega)⟩
          go_wp2
          all_goals (go_ret; first | exact BytesOut.no | exact ⟨true, rfl, rfl, fun _ => unhide fin⟩)


/-- What zzTooBig tells: where it says no, the sizes are small. -/
def Big (w : World) (l0 l1 l2 l3 : Nat) (s1 : Nat → ByteArray) (e : Ending) (w' : World) : Prop :=
  ∃ b, e = .returned (.bool b) ∧ w' = w ∧ (b = false → l0 ≤ 65536 ∧ l1 ≤ 65536 ∧ l2 ≤ 65536 ∧ l3 ≤ 65536 ∧ tot s1 l1 ≤ 1048576)

theorem Big.yes {w : World} {l0 l1 l2 l3 : Nat} {s1 : Nat → ByteArray} : Big w l0 l1 l2 l3 s1 (.returned (.bool true)) w := ⟨true, rfl, rfl, fun h => by cases h⟩

set_option maxRecDepth 100000 in
set_option maxHeartbeats 1000000 in
theorem tooBig_small (a0 a1 a2 a3 : Option Addr) (l0 c0 l1 c1 l2 c2 l3 c3 : Nat) (s0 s1 : Nat → ByteArray) (w : World)
    (r0 : Rd w a0 l0 (fun i => .string (s0 i))) (r1 : Rd w a1 l1 (fun i => .string (s1 i))) (h0 : l0 ≤ 65536) (h1 : l1 ≤ 65536) (h2 : l2 ≤ 65536) (h3 : l3 ≤ 65536)
    (q0 : ∀ i, i < l0 → (s0 i).size ≤ 1048576) (q1 : ∀ i, i < l1 → (s1 i).size ≤ 1048576) :
    Calls Try.prog 6 #[.slice a0 l0 c0, .slice a1 l1 c1, .slice a2 l2 c2, .slice a3 l3 c3] w (Big w l0 l1 l2 l3 s1) := by
  have R0 := hide r0
  have R1 := hide r1
  have Q0 := hide q0
  have Q1 := hide q1
  clear r0 r1 q0 q1
  have t0 : decide ((65536 : Int) < (l0 : Int)) = false := by simp; omega
  have t1 : decide ((65536 : Int) < (l1 : Int)) = false := by simp; omega
  have t2 : decide ((65536 : Int) < (l2 : Int)) = false := by simp; omega
  have t3 : decide ((65536 : Int) < (l3 : Int)) = false := by simp; omega
  go_enter Try.func6, Try.ntmps6
  go_wp2
  any_goals (go_ret; exact Big.yes)
  go_loop [9, 10] (fun z i => ∃ k n : Nat, k ≤ l0 ∧ n ≤ 1048576 ∧ i = .int .i64 k ∧ z = .int .i64 n) (fun _ i => l0 - (intOf i).toNat)
  case atStart => exact ⟨0, l2 + 8 * l3 + 8 * l0 + 8 * l1, Nat.zero_le _, by omega, rfl, by go_num⟩
  case round =>
    obtain ⟨k, n, hk, hn, rfl, rfl⟩ := hrel
    by_cases hlt : k < l0
    · obtain ⟨b, off, ha, hbl, hc⟩ := (unhide R0) (by omega)
      subst ha
      have g1 : w.cell? ⟨b, off + k, none⟩ = some (.string (s0 k)) := hc k hlt
      have g2 := unhide Q0 k hlt
      generalize s0 k = s at g1 g2
      clear hc
      go_wp2
      any_goals (go_ret; exact Big.yes)
      go_round
      case rel => exact ⟨k + 1, n + s.size, by omega, by omega, by go_num, by go_num⟩
      case measure => simp [intOf]; omega
    · go_wp2
      go_loop [9, 11] (fun z i => ∃ k n : Nat, k ≤ l1 ∧ n ≤ 1048576 ∧ tot s1 k ≤ n ∧ i = .int .i64 k ∧ z = .int .i64 n) (fun _ i => l1 - (intOf i).toNat)
      case atStart => exact ⟨0, n, Nat.zero_le _, by omega, Nat.zero_le _, rfl, rfl⟩
      case round =>
        obtain ⟨k2, n2, hk2, hn2, ht2, rfl, rfl⟩ := hrel
        by_cases hlt2 : k2 < l1
        · obtain ⟨b, off, ha, hbl, hc⟩ := (unhide R1) (by omega)
          subst ha
          have g1 : w.cell? ⟨b, off + k2, none⟩ = some (.string (s1 k2)) := hc k2 hlt2
          have g2 := unhide Q1 k2 hlt2
          have e : Hid (tot s1 (k2 + 1) = tot s1 k2 + (s1 k2).size) := rfl
          generalize s1 k2 = s at g1 g2 e
          clear hc
          go_wp2
          any_goals (go_ret; exact Big.yes)
          go_round
          case rel => exact ⟨k2 + 1, n2 + s.size, by omega, by omega, by have := unhide e; omega, by go_num, by go_num⟩
          case measure => simp [intOf]; omega
        · have fin : Hid (l0 ≤ 65536 ∧ l1 ≤ 65536 ∧ l2 ≤ 65536 ∧ l3 ≤ 65536 ∧ tot s1 l1 ≤ 1048576) := ⟨h0, h1, h2, h3, by rw [show l1 = k2 by omega]; omega⟩
          go_wp2
          go_ret
          exact ⟨false, rfl, rfl, fun _ => unhide fin⟩

set_option maxRecDepth 100000 in
set_option maxHeartbeats 1000000 in
theorem tooBig_large (a0 a1 a2 a3 : Option Addr) (l0 c0 l1 c1 l2 c2 l3 c3 : Nat) (s1 : Nat → ByteArray) (w : World) (h : ¬ (l0 ≤ 65536 ∧ l1 ≤ 65536 ∧ l2 ≤ 65536 ∧ l3 ≤ 65536)) :
    Calls Try.prog 6 #[.slice a0 l0 c0, .slice a1 l1 c1, .slice a2 l2 c2, .slice a3 l3 c3] w (Big w l0 l1 l2 l3 s1) := by
  by_cases h0 : l0 ≤ 65536
  · have t0 : decide ((65536 : Int) < (l0 : Int)) = false := by simp; omega
    by_cases h1 : l1 ≤ 65536
    · have t1 : decide ((65536 : Int) < (l1 : Int)) = false := by simp; omega
      by_cases h2 : l2 ≤ 65536
      · have t2 : decide ((65536 : Int) < (l2 : Int)) = false := by simp; omega
        have t3 : decide ((65536 : Int) < (l3 : Int)) = true := by simp; omega
        clear h h0 h1 h2
        go_enter Try.func6, Try.ntmps6
        go_wp2
        go_ret
        exact Big.yes
      · have t2 : decide ((65536 : Int) < (l2 : Int)) = true := by simp; omega
        clear h h0 h1 h2
        go_enter Try.func6, Try.ntmps6
        go_wp2
        go_ret
        exact Big.yes
    · have t1 : decide ((65536 : Int) < (l1 : Int)) = true := by simp; omega
      clear h h0 h1
      go_enter Try.func6, Try.ntmps6
      go_wp2
      go_ret
      exact Big.yes
  · have t0 : decide ((65536 : Int) < (l0 : Int)) = true := by simp; omega
    clear h h0
    go_enter Try.func6, Try.ntmps6
    go_wp2
    go_ret
    exact Big.yes

theorem tooBig_any (a0 a1 a2 a3 : Option Addr) (l0 c0 l1 c1 l2 c2 l3 c3 : Nat) (s0 s1 : Nat → ByteArray) (w : World)
    (r0 : Rd w a0 l0 (fun i => .string (s0 i))) (r1 : Rd w a1 l1 (fun i => .string (s1 i)))
    (q0 : ∀ i, i < l0 → (s0 i).size ≤ 1048576) (q1 : ∀ i, i < l1 → (s1 i).size ≤ 1048576) :
    Calls Try.prog 6 #[.slice a0 l0 c0, .slice a1 l1 c1, .slice a2 l2 c2, .slice a3 l3 c3] w (Big w l0 l1 l2 l3 s1) := by
  by_cases h : l0 ≤ 65536 ∧ l1 ≤ 65536 ∧ l2 ≤ 65536 ∧ l3 ≤ 65536
  · exact tooBig_small a0 a1 a2 a3 l0 c0 l1 c1 l2 c2 l3 c3 s0 s1 w r0 r1 h.1 h.2.1 h.2.2.1 h.2.2.2 q0 q1
  · exact tooBig_large a0 a1 a2 a3 l0 c0 l1 c1 l2 c2 l3 c3 s1 w h

/-- What zzWellFormed tells. -/
def Well (w : World) (l0 l1 l2 l3 : Nat) (st : Nat → Bool) (e : Ending) (w' : World) : Prop :=
  ∃ b, e = .returned (.bool b) ∧ w' = w ∧ (b = true → l2 = l1 ∧ l3 = l1 ∧ (0 < l1 → st 0 = true) ∧ cnt st l1 = l0)

theorem Well.no {w : World} {l0 l1 l2 l3 : Nat} {st : Nat → Bool} : Well w l0 l1 l2 l3 st (.returned (.bool false)) w := ⟨false, rfl, rfl, fun h => by cases h⟩

set_option maxRecDepth 100000 in
set_option maxHeartbeats 1000000 in
theorem well_any (a0 a1 a2 a3 : Option Addr) (l0 c0 l1 c1 l2 c2 l3 c3 : Nat) (st : Nat → Bool) (w : World)
    (r2 : Rd w a2 l2 (fun i => .bool (st i))) (_h0 : l0 ≤ 65536) (h1 : l1 ≤ 65536) (h2 : l2 ≤ 65536) (h3 : l3 ≤ 65536) :
    Calls Try.prog 7 #[.slice a0 l0 c0, .slice a1 l1 c1, .slice a2 l2 c2, .slice a3 l3 c3] w (Well w l0 l1 l2 l3 st) := by
  by_cases e2 : ¬ l2 = l1
  · have t : ((l2 : Int) != (l1 : Int)) = true := by rw [bne_iff_ne]; omega
    clear e2
    go_enter Try.func7, Try.ntmps7
    go_wp2
    go_ret
    exact Well.no
  have e2 := Decidable.not_not.1 e2
  by_cases e3 : ¬ l3 = l1
  · subst e2
    have t : ((l3 : Int) != (l2 : Int)) = true := by rw [bne_iff_ne]; omega
    clear e3
    go_enter Try.func7, Try.ntmps7
    go_wp2
    go_ret
    exact Well.no
  have e3 := Decidable.not_not.1 e3
  subst e2
  subst e3
  have R2 := hide r2
  clear r2
  have loop : ∀ (hst : Hid (0 < l3 → st 0 = true)), Calls Try.prog 7 #[.slice a0 l0 c0, .slice a1 l3 c1, .slice a2 l3 c2, .slice a3 l3 c3] w (Well w l0 l3 l3 l3 st) := by
    intro hst
    by_cases hp : 0 < l3
    · obtain ⟨b, off, ha, hbl, hc⟩ := (unhide R2) hp
      subst ha
      have hs0 : w.cell? ⟨b, off, none⟩ = some (.bool true) := by
        have : w.cell? ⟨b, off + 0, none⟩ = some (.bool (st 0)) := hc 0 hp
        rw [Nat.add_zero] at this
        rw [this, unhide hst hp]
      have HC := hide hc
      clear hc
      go_enter Try.func7, Try.ntmps7
      go_wp2
      go_loop [9, 10] (fun c i => ∃ k : Nat, k ≤ l3 ∧ i = .int .i64 k ∧ c = .int .i64 (cnt st k)) (fun _ i => l3 - (intOf i).toNat)
      case atStart => exact ⟨0, Nat.zero_le _, rfl, rfl⟩
      case round =>
        obtain ⟨k, hk, rfl, rfl⟩ := hrel
        have hcl := cnt_le st k
        by_cases hlt : k < l3
        · have g1 : w.cell? ⟨b, off + k, none⟩ = some (.bool (st k)) := unhide HC k hlt
          have e : Hid (cnt st (k + 1) = cnt st k + (st k).toNat) := rfl
          generalize st k = s at g1 e
          cases s
          all_goals
            go_wp2
            go_round
            case rel => exact ⟨k + 1, by omega, by go_num, by rw [unhide e]; first | rfl | go_num⟩
            case measure => simp [intOf]; omega
        · obtain rfl : k = l3 := by omega
          go_wp2
          go_ret
          exact ⟨_, rfl, rfl, fun h => ⟨rfl, rfl, unhide hst, by simp at h; omega⟩⟩
    · obtain rfl : l3 = 0 := by omega
      go_enter Try.func7, Try.ntmps7
      go_wp2
      refine wp_loop_rounds 1 ?_
      rw [rounds_succ]
      go_wp2
      go_ret
      exact ⟨_, rfl, rfl, fun h => ⟨rfl, rfl, unhide hst, by simp at h; simp [cnt]; omega⟩⟩
  by_cases hst : 0 < l3 → st 0 = true
  · exact loop hst
  · clear loop
    have hp : 0 < l3 := by
      apply Nat.pos_of_ne_zero
      intro h
      exact hst (fun h' => by omega)
    obtain ⟨b, off, ha, hbl, hc⟩ := (unhide R2) hp
    subst ha
    have hs0 : w.cell? ⟨b, off, none⟩ = some (.bool false) := by
      have : w.cell? ⟨b, off + 0, none⟩ = some (.bool (st 0)) := hc 0 hp
      rw [Nat.add_zero] at this
      rw [this]
      cases hq : st 0
      · rfl
      · exact absurd (fun _ => hq) hst
    clear hc hst
    go_enter Try.func7, Try.ntmps7
    go_wp2
    go_ret
    exact Well.no

end Go.Proofs.Qxb6632322a
