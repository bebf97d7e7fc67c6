import Derived.Test.Qxb6632274aWalks
namespace Go.Proofs.Qxb6632274a
open Go.RowKit

theorem hide {p : Prop} (h : p) : Hid p := h
theorem unhide {p : Prop} (h : Hid p) : p := h

/-- What cloneInts leaves: a full slice of the same numbers, in new memory. -/
def Cloned (w : World) (len : Nat) (zs : List Int) (e : Ending) (w' : World) : Prop :=
  ∃ ao b off, e = .returned (.slice ao len len) ∧ Came w' 1 ao b off len len (vals zs) ∧ Bel w.heap.size w w' ∧ (ao = none → len = 0)

theorem clone_nil (w : World) : Calls Try.prog 6 #[.slice none 0 0] w (Cloned w 0 []) := by
  have hq : ∀ wx, (binOp .eql 22 (.slice none 0 0) (.slice none 0 0)).run Try.prog wx = .ok (.bool true) wx := fun wx => by kernel_rfl
  go_enter Try.func6, Try.ntmps6
  go_wp2
  go_ret
  exact ⟨none, 0, 0, rfl, Came_nil _ _ _, Bel.refl _ _, fun _ => rfl⟩

set_option maxRecDepth 100000 in
set_option maxHeartbeats 400000 in
theorem clone_some (ad : Addr) (len cap : Nat) (zs : List Int) (w : World) (hr : Rd w (some ad) len zs) (hl : len ≤ 1000000) :
    Calls Try.prog 6 #[.slice (some ad) len cap] w (Cloned w len zs) := by
  obtain ⟨i0, hi, hz0, hz1, hz2⟩ := info_parts Try.info3
  have hq : ∀ wx, (binOp .eql 22 (.slice (some ad) len cap) (.slice none 0 0)).run Try.prog wx = .ok (.bool false) wx := fun wx => by
    have := Lib.run_eql_slice_nil (P := Try.prog) (t := 22) 
    simp [this]
  go_enter Try.func6, Try.ntmps6
  go_wp2_with (at_make; refine wpList_make_full _ rfl _ _ 22 rfl w.heap.size 3 i0 (.int .i64 0) 1 Try.underlying22 hi hz0 hz1 _ _ _ _ len rfl rfl (by omega) (by omega) ?b1 ?b2 (Nat.le_refl _) ?_)
  case b1 => rw [hz2]; omega
  case b2 => unfold maxLen; omega
  intro w1 hown hgrow
  rw [toList_madeCells_one] at hown
  have hb1 : Bel w.heap.size w w1 := Bel.of ((Below.refl _ _).grown hgrow (Nat.le_refl _) (fun k h => by cases h))
  have hsz : w.heap.size < w1.heap.size := (hown.lt _ rfl).2
  have hown0 : w1.ownsRow w.heap.size 3 1 (.slice (some ⟨w.heap.size, 0, none⟩) len len) len (vals (zs.take 0 ++ List.replicate (len - 0) 0)) := by
    have e : vals (zs.take 0 ++ List.replicate (len - 0) 0) = List.replicate len (.int .i64 0) := by simp [vals]
    rw [e]; exact hown
  clear hown hgrow hq
  obtain ⟨hzl, hrd⟩ := hr
  go_wp2
  go_loopw [4] (fun i wr => ∃ k : Nat, k ≤ len ∧ i = .int .i64 k ∧ wr.ownsRow w.heap.size 3 1 (.slice (some ⟨w.heap.size, 0, none⟩) len len) len (vals (zs.take k ++ List.replicate (len - k) 0)) ∧ Bel w.heap.size w wr)
    (fun i _ => len - (intOf i).toNat)
  case atStart => exact ⟨0, Nat.zero_le _, rfl, hown0, hb1⟩
  case round =>
    clear hown0 hb1
    obtain ⟨k, hk, rfl, ho, hb⟩ := hrel
    by_cases hlt : k < len
    · obtain ⟨b, off, ha, hbl, hc⟩ := hrd (by omega)
      obtain rfl := Option.some.inj ha
      clear ha
      have hck : wr.cell? ⟨b, off + k, none⟩ = some (.int .i64 (zs.getD k 0)) := (hb.cell (p := ⟨b, off + k, none⟩) hbl).trans (hc k hlt)
      have hfr := ho.frozenAt k
      have hcl : ∃ v, wr.cell? ⟨w.heap.size, k, none⟩ = some v := by
        rw [ho.cellAt k (by omega)]
        exact ⟨_, List.getElem?_eq_getElem (by simp [vals_len]; omega)⟩
      obtain ⟨v0, hv0⟩ := hcl
      have hst := ho.stored k (.int .i64 (zs.getD k 0))
      rw [set_step zs len k hzl hlt] at hst
      generalize zs.getD k 0 = z at hck hst
      have Hst := hide hst
      have Hb := hide hb
      clear hst ho hb hc hrd
      go_wp2
      go_roundw
      case rel => exact ⟨k + 1, by omega, by go_num, (unhide Hst).1, (unhide Hb).trans (Bel.of (Below.setCell (Below.refl _ _) (p := ⟨w.heap.size, k, none⟩) (Nat.le_refl _) _))⟩
      case measure => simp [intOf]; omega
    · have e : vals (zs.take k ++ List.replicate (len - k) 0) = vals zs := by
        rw [List.take_of_length_le (by omega), show len - k = 0 by omega]; simp
      rw [e] at ho
      have Ho := hide ho
      clear ho e
      go_wp2
      go_ret
      exact ⟨_, _, _, rfl, Came_own (unhide Ho), hb, fun h => by cases h⟩

/-- cloneInts, whatever slice came in. -/
theorem clone_any (a : Option Addr) (len cap : Nat) (zs : List Int) (w : World) (hr : Rd w a len zs) (hn : a = none → len = 0 ∧ cap = 0) (hl : len ≤ 1000000) :
    Calls Try.prog 6 #[.slice a len cap] w (Cloned w len zs) := by
  cases a with
  | none =>
    obtain ⟨rfl, rfl⟩ := hn rfl
    obtain rfl : zs = [] := List.eq_nil_of_length_eq_zero hr.1
    exact clone_nil w
  | some ad => exact clone_some ad len cap zs w hr hl

end Go.Proofs.Qxb6632274a
