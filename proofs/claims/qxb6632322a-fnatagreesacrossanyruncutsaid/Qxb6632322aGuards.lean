import Derived.Test.Qxb6632322aParts
import Derived.Handy
import Derived.BigQuiet
import Derived.WalkSpells
import Derived.WalkLawsBesides
namespace Go.Proofs.Qxb6632322a
open Go.RowKit

/-- The sum of the first n strings' sizes. -/
def tot (s : Nat → ByteArray) : Nat → Nat
  | 0 => 0
  | n + 1 => tot s n + (s n).size

/-- How many of the first n flags are set. -/
def cnt (st : Nat → Bool) : Nat → Nat
  | 0 => 0
  | n + 1 => cnt st n + (st n).toNat

theorem cnt_le (st : Nat → Bool) (n : Nat) : cnt st n ≤ n := by
  induction n with
  | zero => exact Nat.le_refl _
  | succ n ih => have : (st n).toNat ≤ 1 := Bool.toNat_le _; unfold cnt; omega

end Go.Proofs.Qxb6632322a
