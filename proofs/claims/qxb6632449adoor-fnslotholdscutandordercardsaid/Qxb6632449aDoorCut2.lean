import Derived.Test.Qxb6632449aDoorCut
namespace Go.Proofs.Qxb6632449aDoor
open Go.RowKit
set_option linter.unusedVariables false

set_option maxRecDepth 100000 in
set_option maxHeartbeats 1000000 in
theorem cut_nil (c : Nat) (x y : Int) (ks : Nat → ByteArray) (w : World) (hqm : ∀ i, (ks i).size ≤ maxLen) :
    Calls Tryd.prog 4 #[.slice none 0 c, .int .i64 x, .int .i64 y] w fun e w' => e = .returned (.bool true) ∧ Bel w.heap.size w w' := by
  have HQM := hide hqm
  clear hqm
  go_enter Tryd.func4, Tryd.ntmps4
  go_wp2_with fail
  refine (bytes_two none 0 c x y ks _ (fun h => absurd h (Nat.lt_irrefl _)) (Nat.zero_le _) (unhide HQM)).mono ?_
  rintro e w' ⟨bb, rfl, rfl, hby⟩
  clear hby
  cases bb with
  | false =>
    go_wp2
    go_ret
    exact ⟨rfl, Bel.refl _ _⟩
  | true =>
    go_wp2
    go_loop [8, 9] (fun z i => z = .int .i64 0 ∧ i = .int .i64 0) (fun _ _ => 0)
    case atStart => exact ⟨rfl, rfl⟩
    case round =>
      obtain ⟨rfl, rfl⟩ := hrel
      go_wp2
      go_ret
      exact ⟨rfl, Bel.refl _ _⟩

theorem cut_walk (a : Option Addr) (l c : Nat) (x y : Int) (ks : Nat → ByteArray) (w : World) (hr : Rd w a l (fun i => .string (ks i))) (hlm : l ≤ maxLen) (hqm : ∀ i, (ks i).size ≤ maxLen)
    (x0 : -9223372036854775808 ≤ x) (x1 : x ≤ 9223372036854775807) (ht : Tab w) :
    Calls Tryd.prog 4 #[.slice a l c, .int .i64 x, .int .i64 y] w fun e w' => e = .returned (.bool true) ∧ Bel w.heap.size w w' := by
  cases a with
  | none =>
    obtain rfl : l = 0 := by
      rcases Nat.eq_zero_or_pos l with h | h
      · exact h
      · obtain ⟨_, _, ha, _⟩ := hr h
        cases ha
    exact cut_nil c x y ks w hqm
  | some ad => exact cut_some ad l c x y ks w hr hlm hqm x0 x1 ht

end Go.Proofs.Qxb6632449aDoor
