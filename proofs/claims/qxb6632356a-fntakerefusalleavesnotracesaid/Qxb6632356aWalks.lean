import Derived.Test.Qxb6632356aParts
import Derived.Test.Qxb6632356aWords
import Derived.WalkKit
import Derived.ProofKit
import Derived.OpenShut
import Derived.ChangeOld
import Derived.Below
import Derived.Handy
import Derived.BigQuiet
import Derived.Deep.QuietTactic
import Derived.Deep.RegionHeld3
import Derived.WalkSpells
import Derived.WalkLawsBesides
import Derived.Laws.FloatArith
namespace Go.Proofs.Qxb6632356a
open Go.RowKit
set_option linter.unusedVariables false

/-- float64(n). -/
def ofI (n : Int) : Nat := floatOfInt .f64 n

theorem run_div {x y z : Nat} (h : Ieee.double.div x y = some z) (w : World) : (binOp .quo 22 (.float .f64 x) (.float .f64 y)).run Try.prog w = .ok (.float .f64 z) w := run_float_arith w .quo 22 .f64 x y z h
theorem run_add {x y z : Nat} (h : Ieee.double.add x y = some z) (w : World) : (binOp .add 22 (.float .f64 x) (.float .f64 y)).run Try.prog w = .ok (.float .f64 z) w := run_float_arith w .add 22 .f64 x y z h
theorem run_mul {x y z : Nat} (h : Ieee.double.mul x y = some z) (w : World) : (binOp .mul 22 (.float .f64 x) (.float .f64 y)).run Try.prog w = .ok (.float .f64 z) w := run_float_arith w .mul 22 .f64 x y z h
theorem run_sub {x y z : Nat} (h : Ieee.double.sub x y = some z) (w : World) : (binOp .sub 22 (.float .f64 x) (.float .f64 y)).run Try.prog w = .ok (.float .f64 z) w := run_float_arith w .sub 22 .f64 x y z h

theorem seconds_any (s ns : Int) (q z : Nat) (h1 : Ieee.double.div (floatOfInt .f64 ns) 4741671816366391296 = some q) (h2 : Ieee.double.add (floatOfInt .f64 s) q = some z) (w : World) :
    Calls Try.prog 11 #[.int .u64 s, .int .i64 ns] w fun e w' => e = .returned (.float .f64 z) ∧ w' = w := by
  have r1 := run_div h1
  have r2 := run_add h2
  clear h1 h2
  go_enter Try.func11, Try.ntmps11
  go_wp2
  go_ret
  exact ⟨rfl, rfl⟩

/-- Is (s1, n1) strictly after (s2, n2)? -/
def aft (s1 n1 s2 n2 : Int) : Bool := decide (s2 < s1 ∨ (s1 = s2 ∧ n2 < n1))

theorem after_any (s1 n1 s2 n2 : Int) (w : World) : Calls Try.prog 8 #[.agg #[.int .i64 s1, .int .i64 n1], .agg #[.int .i64 s2, .int .i64 n2]] w fun e w' => e = .returned (.bool (aft s1 n1 s2 n2)) ∧ Below w.heap.size w w' := by
  by_cases h1 : s2 < s1
  · have t1 : decide (s2 < s1) = true := by simpa using h1
    go_enter Try.func8, Try.ntmps8
    go_wp2
    go_ret
    exact ⟨by simp [aft, h1], ((Below.refl _ _).alloc (Nat.le_refl _) _).alloc (by simp) _⟩
  · have t1 : decide (s2 < s1) = false := by simpa using h1
    by_cases h2 : s1 = s2
    · have t2 : (s1 == s2) = true := by simpa using h2
      have H2 := hide h2
      have H1 := hide h1
      clear h2 h1
      go_enter Try.func8, Try.ntmps8
      go_wp2
      go_ret
      exact ⟨by simp [aft, unhide H2], ((Below.refl _ _).alloc (Nat.le_refl _) _).alloc (by simp) _⟩
    · have t2 : (s1 == s2) = false := by simpa using h2
      have H2 := hide h2
      have H1 := hide h1
      clear h2 h1
      go_enter Try.func8, Try.ntmps8
      go_wp2
      go_ret
      exact ⟨by simp [aft, unhide H2]; exact unhide H1, ((Below.refl _ _).alloc (Nat.le_refl _) _).alloc (by simp) _⟩

theorem zzAfter_any (s1 n1 s2 n2 : Int) (w : World) : Calls Try.prog 6 #[.int .i64 s1, .int .i64 n1, .int .i64 s2, .int .i64 n2] w fun e w' => e = .returned (.bool (aft s1 n1 s2 n2)) ∧ w' = w := by
  by_cases h2 : s1 = s2
  · have t2 : (s1 != s2) = false := by simp [h2]
    have H2 := hide h2
    clear h2
    go_enter Try.func6, Try.ntmps6
    go_wp2
    go_ret
    exact ⟨by simp [aft, unhide H2], rfl⟩
  · have t2 : (s1 != s2) = true := by simp [h2]
    have H2 := hide h2
    clear h2
    go_enter Try.func6, Try.ntmps6
    go_wp2
    go_ret
    exact ⟨by simp [aft, unhide H2], rfl⟩

/-- The difference of two instants' seconds, as Go's uint64 has it. -/
theorem wrap_diff (s1 s2 : Int) (h1 : -9223372036854775808 ≤ s2) (h2 : s1 ≤ 9223372036854775807) (h3 : s2 ≤ s1) : IntKind.u64.wrap (wrap64 (s1 - s2)) = s1 - s2 := by
  unfold wrap64
  rw [IntKind.wrap_u64]
  omega

theorem since_a (s1 n1 s2 n2 : Int) (q z : Nat) (b1 : -9223372036854775808 ≤ s2) (b2 : s1 ≤ 9223372036854775807) (b3 : s2 ≤ s1) (c1 : 0 ≤ n1) (c2 : n1 < 1000000000) (c3 : 0 ≤ n2) (c4 : n2 ≤ n1)
    (h1 : Ieee.double.div (floatOfInt .f64 (n1 - n2)) 4741671816366391296 = some q) (h2 : Ieee.double.add (floatOfInt .f64 (s1 - s2)) q = some z) (w : World) :
    Calls Try.prog 10 #[.agg #[.int .i64 s1, .int .i64 n1], .agg #[.int .i64 s2, .int .i64 n2]] w fun e w' => e = .returned (.float .f64 z) ∧ Below w.heap.size w w' := by
  have H1 := hide h1
  have H2 := hide h2
  clear h1 h2
  go_enter Try.func10, Try.ntmps10
  go_wp2_with fail
  go_quiet (fail)
  go_wp2_with fail
  rw [wrap_diff s1 s2 b1 b2 b3]
  refine (seconds_any _ _ q z (unhide H1) (unhide H2) _).mono ?_
  rintro e w' ⟨rfl, rfl⟩
  go_wp2
  go_ret
  exact ⟨rfl, below_drewN (((Below.refl _ _).alloc (Nat.le_refl _) _).alloc (by simp) _) _⟩

theorem since_b (s1 n1 s2 n2 : Int) (q z : Nat) (b1 : -9223372036854775808 ≤ s2) (b2 : s1 ≤ 9223372036854775807) (b3 : s2 < s1) (c1 : 0 ≤ n1) (c2 : n2 < 1000000000) (c4 : n1 < n2)
    (h1 : Ieee.double.div (floatOfInt .f64 (n1 - n2 + 1000000000)) 4741671816366391296 = some q) (h2 : Ieee.double.add (floatOfInt .f64 (s1 - s2 - 1)) q = some z) (w : World) :
    Calls Try.prog 10 #[.agg #[.int .i64 s1, .int .i64 n1], .agg #[.int .i64 s2, .int .i64 n2]] w fun e w' => e = .returned (.float .f64 z) ∧ Below w.heap.size w w' := by
  have H1 := hide h1
  have H2 := hide h2
  clear h1 h2
  go_enter Try.func10, Try.ntmps10
  go_wp2_with fail
  go_quiet (fail)
  go_wp2_with fail
  rw [wrap_diff s1 s2 b1 b2 (by omega), IntWalk.u64_in (s1 - s2 - 1) ⟨by omega, by omega⟩]
  refine (seconds_any _ _ q z (unhide H1) (unhide H2) _).mono ?_
  rintro e w' ⟨rfl, rfl⟩
  go_wp2
  go_ret
  exact ⟨rfl, below_drewN (((Below.refl _ _).alloc (Nat.le_refl _) _).alloc (by simp) _) _⟩

theorem refill_any (r tk sc : Nat) (bu : Int) (p a z : Nat) (h1 : Ieee.double.mul sc r = some p) (h2 : Ieee.double.add tk p = some a) (hz : ∀ w, (Builtin.min_ #[22, 22] 22 #[.float .f64 a, .float .f64 (floatOfInt .f64 bu)]).run Try.prog w = .ok (.float .f64 z) w) (w : World) :
    Calls Try.prog 9 #[.agg #[.float .f64 r, .int .i64 bu], .float .f64 tk, .float .f64 sc] w fun e w' => e = .returned (.float .f64 z) ∧ Below w.heap.size w w' := by
  have r1 := run_mul h1
  have r2 := run_add h2
  clear h1 h2
  go_enter Try.func9, Try.ntmps9
  go_wp2
  go_ret
  exact ⟨rfl, (Below.refl _ _).alloc (Nat.le_refl _) _⟩
end Go.Proofs.Qxb6632356a
