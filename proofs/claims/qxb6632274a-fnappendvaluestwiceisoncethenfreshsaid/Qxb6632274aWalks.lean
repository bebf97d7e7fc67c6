import Derived.Test.Qxb6632274aParts
import Derived.Handy
import Derived.BigQuiet
import Derived.WalkSpells
import Derived.WalkLawsBesides
namespace Go.Proofs.Qxb6632274a
open Go.RowKit

theorem Try.info3 : (Try.prog.info? 3).map (fun i => (i.zero, i.size, i.bytes)) = some (some (.int .i64 0), 1, 8) := by kernel_rfl

/-- n cells that hold nought. -/
def zeros (n : Nat) : List Value := List.replicate n (.int .i64 0)
theorem zeros_succ (n : Nat) : zeros n ++ [.int .i64 0] = zeros (n + 1) := by unfold zeros; rw [List.replicate_succ']

theorem bytes2 (a0 a1 : Option Addr) (l0 c0 l1 c1 : Nat) (w : World) (h0 : l0 ≤ maxLen) (h1 : l1 ≤ maxLen) :
    Calls Try.prog 5 #[.slice a0 l0 c0, .slice a1 l1 c1] w fun e w' => ∃ b, e = .returned (.bool b) ∧ w' = w := by
  unfold maxLen at h0 h1
  go_enter Try.func5, Try.ntmps5
  go_wp2
  all_goals (go_ret; exact ⟨_, rfl, rfl⟩)

theorem bytes1 (a0 : Option Addr) (l0 c0 : Nat) (w : World) (h0 : l0 ≤ maxLen) :
    Calls Try.prog 8 #[.slice a0 l0 c0] w fun e w' => ∃ b, e = .returned (.bool b) ∧ w' = w := by
  unfold maxLen at h0
  go_enter Try.func8, Try.ntmps8
  go_wp2
  all_goals (go_ret; exact ⟨_, rfl, rfl⟩)

set_option maxRecDepth 100000 in
set_option maxHeartbeats 400000 in
theorem appendValues_any (ao : Option Addr) (b off len cap : Nat) (olds : List Value) (w : World) (hc : Came w 1 ao b off len cap olds) (hl : len ≤ 1000000) :
    Calls Try.prog 9 #[.slice ao len cap] w fun e w' => ∃ v, e = .returned v ∧ Onto w 3 1 ao b off len cap olds w' v 1000 (zeros 1000) := by
  obtain ⟨i0, hi, hz0, hz1, hz2⟩ := info_parts Try.info3
  go_enter Try.func9, Try.ntmps9
  go_wp2
  go_loopw [0, 5] (fun v i wr => ∃ k : Nat, k ≤ 1000 ∧ i = .int .i64 k ∧ Onto w 3 1 ao b off len cap olds wr v k (zeros k))
    (fun _ i _ => 1000 - (intOf i).toNat)
  case atStart => exact ⟨0, Nat.zero_le _, rfl, Onto.start hc⟩
  case round =>
    obtain ⟨k, hk, rfl, ho⟩ := hrel
    by_cases hlt : k < 1000
    · go_wp2
      refine wp_loop_rounds 2 ?_
      rw [rounds_succ]
      go_wp2_with fail
      rw [rounds_succ]
      go_wp2_with (at_builtin; refine wpList_append_onto _ rfl (.tmp 14) (.tmp 16) 22 rfl hc i0 (.int .i64 0) 8 Try.underlying22 hi hz0 hz1 hz2 rfl (by decide) rfl (ho.alloc hc _) ⟨wr.heap.size, 0, none⟩ 1 [.int .i64 0] rfl rfl ?c1 ?c2 ?b1 ?b2 ?_)
      case c1 => exact cell_one_new _ _ _
      case c2 => intro u hu; simp at hu; subst hu; rfl
      case b1 => unfold maxLen; omega
      case b2 => omega
      intro v' w' ho'
      rw [zeros_succ] at ho'
      go_wp2
      go_roundw
      case rel => exact ⟨k + 1, by omega, by go_num, ho'⟩
      case measure => simp [intOf]; omega
    · go_wp2
      go_ret
      exact ⟨_, rfl, by rw [show 1000 = k by omega]; exact ho⟩

theorem zzAppendValues_any (ao : Option Addr) (b off len cap : Nat) (olds : List Value) (w : World) (hc : Came w 1 ao b off len cap olds) (hl : len ≤ 1000000) :
    Calls Try.prog 7 #[.slice ao len cap] w fun e w' => ∃ v, e = .returned v ∧ Onto w 3 1 ao b off len cap olds w' v 1000 (zeros 1000) := by
  go_enter Try.func7, Try.ntmps7
  go_wp2_with fail
  refine (appendValues_any ao b off len cap olds _ hc hl).mono ?_
  rintro e w' ⟨v, rfl, ho⟩
  go_wp2
  go_ret
  exact ⟨_, rfl, ho⟩

end Go.Proofs.Qxb6632274a
