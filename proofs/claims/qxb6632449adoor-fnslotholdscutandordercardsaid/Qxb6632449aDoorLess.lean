import Derived.Test.Qxb6632449aDoorSlots
import Derived.Deep.QuietTactic
namespace Go.Proofs.Qxb6632449aDoor
open Go.RowKit
set_option linter.unusedVariables false

theorem byte_same (p q : ByteArray) (k : Nat) (h1 : k < p.size) (h2 : k < q.size) (h : q.data[k]? = p.data[k]?) : q[k] = p[k] := by
  have e1 : p.data[k]? = some p[k] := Array.getElem?_eq_getElem (h := h1)
  have e2 : q.data[k]? = some q[k] := Array.getElem?_eq_getElem (h := h2)
  rw [e1, e2] at h
  exact Option.some.inj h

set_option maxRecDepth 100000 in
set_option maxHeartbeats 1000000 in
theorem less_walk (p q : ByteArray) (hp : p.size ≤ 1048576) (hpq : p.size < q.size) (hq : q.size ≤ 2097152) (he : ∀ i, i < p.size → q.data[i]? = p.data[i]?) (w : World) :
    Calls Tryd.prog 9 #[.string p, .string q] w fun e w' => e = .returned (.bool true) ∧ Bel w.heap.size w w' := by
  have HE := hide he
  clear he
  go_enter Tryd.func9, Tryd.ntmps9
  go_wp2
  go_loopw [5] (fun i wr => ∃ k m : Nat, k ≤ p.size ∧ i = .int .i64 k ∧ wr = w.drewN m) (fun i _ => p.size - (intOf i).toNat)
  case atStart => exact ⟨0, 0, Nat.zero_le _, rfl, rfl⟩
  case round =>
    obtain ⟨k, m, hk, rfl, rfl⟩ := hrel
    by_cases hlt : k < p.size
    · have t1 : decide ((k : Int) < (p.size : Int)) = true := by simp; omega
      have t2 : decide ((k : Int) < (q.size : Int)) = true := by simp; omega
      have hkq : k < q.size := by omega
      have heq : q[k] = p[k] := byte_same p q k hlt hkq (unhide HE k hlt)
      have heq2 : ((p[k].toNat : Int) != (q[k].toNat : Int)) = false := by rw [heq]; simp
      clear heq
      go_wp2_with fail
      go_quiet (fail)
      go_wp2
      go_roundw
      case rel => exact ⟨k + 1, _, by omega, by go_num, rfl⟩
      case measure => simp [intOf]; omega
    · have t1 : decide ((k : Int) < (p.size : Int)) = false := by simp; omega
      have t3 : decide ((p.size : Int) < (q.size : Int)) = true := by simp; omega
      go_wp2
      go_ret
      exact ⟨rfl, (Bel.refl _ _).drewN _⟩

end Go.Proofs.Qxb6632449aDoor
