import Derived.Test.Qxb6632449aDoorParts
import Derived.Deep.Grids
namespace Go.Proofs.Qxb6632449aDoor
open Go.ChangeShapes Go.WideShapes Go.ChangeAt Go.RowKit
set_option linter.unusedVariables false

/-- The cells of a slice, at a plain address. -/
theorem rd_of {w : World} {a : Addr} {len m : Nat} {f : Nat → Value} (h : ∀ i, i < m → w.cell? (a.add i) = some (f i)) (hl : len ≤ m) : Rd w (some a) len f := by
  intro hp
  obtain ⟨b, off, spot⟩ := a
  have hspot : spot = none := by simpa [Addr.add] using World.cell?_spot (h 0 (by omega))
  subst hspot
  have hc : ∀ i, i < len → w.cell? ⟨b, off + i, none⟩ = some (f i) := fun i hi => by rw [← Go.WideShapes.add_plain]; exact h i (by omega)
  exact ⟨b, off, rfl, World.block_lt_of_cell? w _ (hc 0 hp), hc⟩

section
variable {H : Type} {enc : TypeId × Value → H} {P : Program} {w : World} {base : Nat} {held : Bool}

theorem rd_strings {t e : TypeId} {fuel : Nat} {a : Option Addr} {len cap : Nat} {x : DataW H × List MemPlace} (ht : P.underlying t = some (.slice e)) (he : P.underlying e = some .string) (hc : P.cellsOf e = 1)
    (h : DataW.trod enc P w base (fun _ => true) held fuel t (Value.slice a len cap).cells.toList = some x) :
    ∃ f : Nat → ByteArray, Rd w a len (fun i => .string (f i)) ∧ (∀ i, (f i).size ≤ maxLen) ∧ len ≤ maxLen := by
  rcases open_strings ht he hc h with ⟨hcs, _⟩ | ⟨x, l, c, ss, hcs, _, hl, hm, hz, _, hcell, hws⟩
  · simp [Value.cells] at hcs
    obtain ⟨rfl, rfl, rfl⟩ := hcs
    exact ⟨fun _ => ByteArray.empty, fun h => by omega, fun i => Nat.zero_le _, Nat.zero_le _⟩
  · simp [Value.cells] at hcs
    obtain ⟨rfl, rfl, rfl⟩ := hcs
    simp only [if_true] at hz
    refine ⟨fun i => ss.getD i ByteArray.empty, rd_of hcell (by omega), fun i => ?_, Nat.le_trans hl hm⟩
    by_cases hi : i < ss.length
    · have : ss.getD i ByteArray.empty = ss[i] := by simp [List.getD, hi]
      show (ss.getD i ByteArray.empty).size ≤ _
      rw [this]
      exact hws _ (List.getElem_mem hi)
    · have : ss.getD i ByteArray.empty = ByteArray.empty := by simp [List.getD, hi]
      show (ss.getD i ByteArray.empty).size ≤ _
      rw [this]
      exact Nat.zero_le _

theorem rd_bools {t e : TypeId} {fuel : Nat} {a : Option Addr} {len cap : Nat} {x : DataW H × List MemPlace} (ht : P.underlying t = some (.slice e)) (he : P.underlying e = some .bool) (hc : P.cellsOf e = 1)
    (h : DataW.trod enc P w base (fun _ => true) held fuel t (Value.slice a len cap).cells.toList = some x) :
    ∃ f : Nat → Bool, Rd w a len (fun i => .bool (f i)) ∧ len ≤ maxLen := by
  rcases Go.Deep.open_bools ht he hc h with ⟨hcs, _⟩ | ⟨x, l, c, B, hcs, _, hl, hm, _, hcell⟩
  · simp [Value.cells] at hcs
    obtain ⟨rfl, rfl, rfl⟩ := hcs
    exact ⟨fun _ => false, fun h => by omega, Nat.zero_le _⟩
  · simp [Value.cells] at hcs
    obtain ⟨rfl, rfl, rfl⟩ := hcs
    exact ⟨B, rd_of hcell hl, Nat.le_trans hl hm⟩

theorem rd_ints {k : IntKind} {t e : TypeId} {fuel : Nat} {a : Option Addr} {len cap : Nat} {x : DataW H × List MemPlace} (ht : P.underlying t = some (.slice e)) (he : P.underlying e = some (.int k)) (hc : P.cellsOf e = 1)
    (h : DataW.trod enc P w base (fun _ => true) held fuel t (Value.slice a len cap).cells.toList = some x) :
    ∃ f : Nat → Int, Rd w a len (fun i => .int k (f i)) ∧ len ≤ maxLen := by
  rcases open_ints ht he hc h with ⟨hcs, _⟩ | ⟨x, l, c, zs, hcs, _, hl, hm, hz, _, hcell, hws⟩
  · simp [Value.cells] at hcs
    obtain ⟨rfl, rfl, rfl⟩ := hcs
    exact ⟨fun _ => 0, fun h => by omega, Nat.zero_le _⟩
  · simp [Value.cells] at hcs
    obtain ⟨rfl, rfl, rfl⟩ := hcs
    simp only [if_true] at hz
    exact ⟨fun i => zs.getD i 0, rd_of hcell (by omega), Nat.le_trans hl hm⟩
end
end Go.Proofs.Qxb6632449aDoor
