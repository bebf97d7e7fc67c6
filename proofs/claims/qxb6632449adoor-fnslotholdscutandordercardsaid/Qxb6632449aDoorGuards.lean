import Derived.Test.Qxb6632449aDoorParts
import Derived.Test.Qxb6632449aDoorShelf
import Derived.Handy
import Derived.BigQuiet
import Derived.WalkSpells
import Derived.WalkLawsBesides
namespace Go.Proofs.Qxb6632449aDoor
open Go.RowKit
set_option linter.unusedVariables false

/-- What zzBytes tells: where it says yes, the list and every string are short; the world stands. -/
def BytesOut (w : World) (l0 : Nat) (s0 : Nat → ByteArray) (e : Ending) (w' : World) : Prop :=
  ∃ b, e = .returned (.bool b) ∧ w' = w ∧ (b = true → l0 ≤ 1048576 ∧ ∀ t, t < l0 → (s0 t).size ≤ 1048576)

theorem BytesOut.no {w : World} {l0 : Nat} {s0 : Nat → ByteArray} : BytesOut w l0 s0 (.returned (.bool false)) w := ⟨false, rfl, rfl, fun h => by cases h⟩

set_option maxRecDepth 100000 in
set_option maxHeartbeats 1000000 in
theorem bytes_one (a0 : Option Addr) (l0 c0 : Nat) (x y : Int) (s0 : Nat → ByteArray) (w : World)
    (r0 : Rd w a0 l0 (fun i => .string (s0 i))) (h0 : l0 ≤ maxLen) (q0 : ∀ i, (s0 i).size ≤ maxLen) :
    Calls Tryd.prog 5 #[.slice a0 l0 c0, .int .i64 x, .int .i64 y] w (BytesOut w l0 s0) := by
  unfold maxLen at h0 q0
  have R0 := hide r0
  have Q0 := hide q0
  clear r0 q0
  go_enter Tryd.func5, Tryd.ntmps5
  go_wp2
  any_goals (go_ret; exact BytesOut.no)
  go_loop [7, 8] (fun z i => ∃ k n : Nat, k ≤ l0 ∧ n ≤ 1048576 ∧ (∀ t, t < k → (s0 t).size ≤ 1048576) ∧ i = .int .i64 k ∧ z = .int .i64 n) (fun _ i => l0 - (intOf i).toNat)
  case atStart => exact ⟨0, l0, Nat.zero_le _, by omega, fun t h => by omega, rfl, rfl⟩
  case round =>
    obtain ⟨k, n, hk, hn, hal, rfl, rfl⟩ := hrel
    have HAL := hide hal
    clear hal
    by_cases hlt : k < l0
    · obtain ⟨b, off, ha, hbl, hc⟩ := (unhide R0) (by omega)
      subst ha
      have g1 : w.cell? ⟨b, off + k, none⟩ = some (.string (s0 k)) := hc k hlt
      have g2 := unhide Q0 k
      have step : Hid ((s0 k).size ≤ 1048576 → ∀ t, t < k + 1 → (s0 t).size ≤ 1048576) := fun h t ht => by
        by_cases e : t = k
        · rw [e]; exact h
        · exact unhide HAL t (by omega)
      generalize s0 k = s at g1 g2 step
      clear hc
      go_wp2
      any_goals (go_ret; exact BytesOut.no)
      go_round
      case rel => exact ⟨k + 1, n + s.size, by omega, by omega, unhide step (by omega), by go_num, by go_num⟩
      case measure => simp [intOf]; omega
    · have fin : Hid (l0 ≤ 1048576 ∧ ∀ t, t < l0 → (s0 t).size ≤ 1048576) := ⟨by omega, fun t ht => unhide HAL t (by omega)⟩
      go_wp2
      all_goals (go_ret; first | exact BytesOut.no | exact ⟨true, rfl, rfl, fun _ => unhide fin⟩)

set_option maxRecDepth 100000 in
set_option maxHeartbeats 1000000 in
theorem bytes_two (a0 : Option Addr) (l0 c0 : Nat) (x y : Int) (s0 : Nat → ByteArray) (w : World)
    (r0 : Rd w a0 l0 (fun i => .string (s0 i))) (h0 : l0 ≤ maxLen) (q0 : ∀ i, (s0 i).size ≤ maxLen) :
    Calls Tryd.prog 8 #[.slice a0 l0 c0, .int .i64 x, .int .i64 y] w (BytesOut w l0 s0) := by
  unfold maxLen at h0 q0
  have R0 := hide r0
  have Q0 := hide q0
  clear r0 q0
  go_enter Tryd.func8, Tryd.ntmps8
  go_wp2
  any_goals (go_ret; exact BytesOut.no)
  go_loop [7, 8] (fun z i => ∃ k n : Nat, k ≤ l0 ∧ n ≤ 1048576 ∧ (∀ t, t < k → (s0 t).size ≤ 1048576) ∧ i = .int .i64 k ∧ z = .int .i64 n) (fun _ i => l0 - (intOf i).toNat)
  case atStart => exact ⟨0, l0, Nat.zero_le _, by omega, fun t h => by omega, rfl, rfl⟩
  case round =>
    obtain ⟨k, n, hk, hn, hal, rfl, rfl⟩ := hrel
    have HAL := hide hal
    clear hal
    by_cases hlt : k < l0
    · obtain ⟨b, off, ha, hbl, hc⟩ := (unhide R0) (by omega)
      subst ha
      have g1 : w.cell? ⟨b, off + k, none⟩ = some (.string (s0 k)) := hc k hlt
      have g2 := unhide Q0 k
      have step : Hid ((s0 k).size ≤ 1048576 → ∀ t, t < k + 1 → (s0 t).size ≤ 1048576) := fun h t ht => by
        by_cases e : t = k
        · rw [e]; exact h
        · exact unhide HAL t (by omega)
      generalize s0 k = s at g1 g2 step
      clear hc
      go_wp2
      any_goals (go_ret; exact BytesOut.no)
      go_round
      case rel => exact ⟨k + 1, n + s.size, by omega, by omega, unhide step (by omega), by go_num, by go_num⟩
      case measure => simp [intOf]; omega
    · have fin : Hid (l0 ≤ 1048576 ∧ ∀ t, t < l0 → (s0 t).size ≤ 1048576) := ⟨by omega, fun t ht => unhide HAL t (by omega)⟩
      go_wp2
      all_goals (go_ret; first | exact BytesOut.no | exact ⟨true, rfl, rfl, fun _ => unhide fin⟩)

end Go.Proofs.Qxb6632449aDoor
