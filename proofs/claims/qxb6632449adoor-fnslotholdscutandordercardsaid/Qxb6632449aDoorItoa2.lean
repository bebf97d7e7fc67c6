import Derived.Test.Qxb6632449aDoorItoa
namespace Go.Proofs.Qxb6632449aDoor
open Go.RowKit Go.Lib
set_option linter.unusedVariables false

theorem It.more' {w0 w : World} {u0 v k : Nat} {D : List UInt8} {cs : Array Value} (h : It w0 u0 v (k + 1) D cs w) (hv : ¬ v < 10) :
    ∃ D' cs', It w0 u0 (v / 10) k D' cs' (w.setCell ⟨w0.heap.size, k, none⟩ (.int .u8 (48 + (v : Int) % 10))) := by
  have e : ((48 + v % 10 : Nat) : Int) = 48 + (v : Int) % 10 := by omega
  have := h.more hv
  rw [e] at this
  exact ⟨_, _, this⟩

theorem It.last' {w0 w : World} {u0 v k : Nat} {D : List UInt8} {cs : Array Value} (h : It w0 u0 v (k + 1) D cs w) (hv : v < 10) :
    ∃ cs', ItEnd w0 (decDigits u0) k cs' (w.setCell ⟨w0.heap.size, k, none⟩ (.int .u8 (48 + (v : Int) % 10))) := by
  have e : ((48 + v : Nat) : Int) = 48 + (v : Int) % 10 := by omega
  have := h.last hv
  rw [e] at this
  exact ⟨_, this⟩

theorem ItEnd.text' {w0 w : World} {l : List UInt8} {k : Nat} {cs : Array Value} (h : ItEnd w0 l k cs w) (cap : Nat) : (convert 33 9 (.slice (some ⟨w0.heap.size, k, none⟩) (24 - k) cap)).run Tryd.prog w = .ok (.string ⟨l.toArray⟩) w := by
  rw [show 24 - k = l.length by have := h.pl; omega]
  exact h.text cap

theorem slice_buf (b k : Nat) (hk : k ≤ 23) (W : World) : (Instr.sliceAt 32 (.pointer (some ⟨b, 0, none⟩)) (some (.int .i64 (k : Int))) none none).run Tryd.prog W = .ok (.slice (some ⟨b, k, none⟩) (24 - k) (24 - k)) W := by
  have e1 : Tryd.prog.arrayLen 32 = 24 := by kernel_rfl
  have e2 : Tryd.prog.elem 32 = 5 := by kernel_rfl
  have e3 : (sizeOf 5).run Tryd.prog W = .ok 1 W := by kernel_rfl
  have := run_sliceAt_array_l (P := Tryd.prog) W 32 ⟨b, 0, none⟩ (by rw [e1, e2]; exact Tryd.underlying32) .i64 k (by omega) (by rw [e1]; omega)
  rw [this, e1, e2, e3]
  simp only [Result.andThen, slicedAt]
  rw [if_neg (by omega), Lib.add_plain]
  simp

set_option maxRecDepth 100000 in
set_option maxHeartbeats 1000000 in
theorem itoa_neg_walk (u0 : Nat) (hu : 1 ≤ u0) (hb : u0 ≤ 9223372036854775808) (w : World) :
    Calls Tryd.prog 7 #[.int .i64 (-(u0 : Int))] w fun e w' => e = .returned (.string ⟨(45 :: decDigits u0).toArray⟩) ∧ Bel w.heap.size w w' := by
  have hn : decide (0 < u0) = true := by simp; omega
  go_enter Tryd.func7, Tryd.ntmps7
  go_wp2
  go_loopw [3, 6] (fun u i wr => ∃ v k D cs, u = .int .u64 (v : Nat) ∧ i = .int .i64 (k : Nat) ∧ It w u0 v k D cs wr) (fun u _ _ => (RowKit.intOf u).toNat)
  case atStart => exact ⟨u0, 24, [], zeros24, by congr 1; omega, rfl, It.first w u0⟩
  case round =>
    obtain ⟨v, k, D, cs, rfl, rfl, hi⟩ := hrel
    have hroom := hi.room (by omega)
    have hvu := hi.le
    obtain ⟨k, rfl⟩ : ∃ k', k = k' + 1 + 1 := ⟨k - 2, by omega⟩
    have hk24 : k + 1 + 1 ≤ 24 := by have := hi.pl; omega
    obtain ⟨x, hx⟩ : ∃ x, wr.cell? ⟨w.heap.size, k + 1, none⟩ = some x := by
      rw [hi.blk.cell]; exact ⟨_, Array.getElem?_eq_getElem (by rw [hi.size]; omega)⟩
    obtain ⟨y, hy⟩ : ∃ y, wr.cell? ⟨w.heap.size, k, none⟩ = some y := by
      rw [hi.blk.cell]; exact ⟨_, Array.getElem?_eq_getElem (by rw [hi.size]; omega)⟩
    have hfz := hi.blk.frozen (k + 1)
    have hfy := hi.blk.frozen k
    by_cases hv : v < 10
    · obtain ⟨cs', hend⟩ := hi.last' hv
      have htx := hend.minus.text' (24 - k)
      have HE := hide hend.minus.bel
      have hsl := slice_buf w.heap.size k (by omega)
      have hq : ((v : Int) / 10 == 0) = true := by simp; omega
      clear hi hend
      go_wp2
      go_ret
      exact ⟨rfl, unhide HE⟩
    · obtain ⟨D', cs', hmore⟩ := hi.more' hv
      have HM := hide hmore
      have hq : ((v : Int) / 10 == 0) = false := by simp; omega
      clear hi hmore
      go_wp2
      go_roundw
      case rel => exact ⟨v / 10, k + 1, D', cs', by congr 1, by congr 1, unhide HM⟩
      case measure => simp [RowKit.intOf]; omega

set_option maxRecDepth 100000 in
set_option maxHeartbeats 1000000 in
theorem itoa_pos_walk (u0 : Nat) (hb : u0 ≤ 9223372036854775807) (w : World) :
    Calls Tryd.prog 7 #[.int .i64 (u0 : Int)] w fun e w' => e = .returned (.string ⟨(decDigits u0).toArray⟩) ∧ Bel w.heap.size w w' := by
  have hn : decide ((u0 : Int) < 0) = false := by simp
  go_enter Tryd.func7, Tryd.ntmps7
  go_wp2
  go_loopw [3, 6] (fun u i wr => ∃ v k D cs, u = .int .u64 (v : Nat) ∧ i = .int .i64 (k : Nat) ∧ It w u0 v k D cs wr) (fun u _ _ => (RowKit.intOf u).toNat)
  case atStart => exact ⟨u0, 24, [], zeros24, rfl, rfl, It.first w u0⟩
  case round =>
    obtain ⟨v, k, D, cs, rfl, rfl, hi⟩ := hrel
    have hroom := hi.room (by omega)
    have hvu := hi.le
    obtain ⟨k, rfl⟩ : ∃ k', k = k' + 1 + 1 := ⟨k - 2, by omega⟩
    have hk24 : k + 1 + 1 ≤ 24 := by have := hi.pl; omega
    obtain ⟨x, hx⟩ : ∃ x, wr.cell? ⟨w.heap.size, k + 1, none⟩ = some x := by
      rw [hi.blk.cell]; exact ⟨_, Array.getElem?_eq_getElem (by rw [hi.size]; omega)⟩
    obtain ⟨y, hy⟩ : ∃ y, wr.cell? ⟨w.heap.size, k, none⟩ = some y := by
      rw [hi.blk.cell]; exact ⟨_, Array.getElem?_eq_getElem (by rw [hi.size]; omega)⟩
    have hfz := hi.blk.frozen (k + 1)
    have hfy := hi.blk.frozen k
    by_cases hv : v < 10
    · obtain ⟨cs', hend⟩ := hi.last' hv
      have htx := hend.text' (24 - (k + 1))
      have HE := hide hend.bel
      have hsl : ∀ W, (Instr.sliceAt 32 (.pointer (some ⟨w.heap.size, 0, none⟩)) (some (.int .i64 ((k : Int) + 1))) none none).run Tryd.prog W = .ok (.slice (some ⟨w.heap.size, k + 1, none⟩) (24 - (k + 1)) (24 - (k + 1))) W := fun W => slice_buf w.heap.size (k + 1) (by omega) W
      generalize 24 - (k + 1) = L at htx hsl
      have hq : ((v : Int) / 10 == 0) = true := by simp; omega
      clear hi hend
      go_wp2
      go_ret
      exact ⟨rfl, unhide HE⟩
    · obtain ⟨D', cs', hmore⟩ := hi.more' hv
      have HM := hide hmore
      have hq : ((v : Int) / 10 == 0) = false := by simp; omega
      clear hi hmore
      go_wp2
      go_roundw
      case rel => exact ⟨v / 10, k + 1, D', cs', by congr 1, by congr 1, unhide HM⟩
      case measure => simp [RowKit.intOf]; omega

/-- zzB1itoa writes what strconv.Itoa writes. -/
theorem itoa_own (n : Int) (h0 : -9223372036854775808 ≤ n) (h1 : n ≤ 9223372036854775807) (w : World) :
    Calls Tryd.prog 7 #[.int .i64 n] w fun e w' => e = .returned (.string ⟨(itoa n).toArray⟩) ∧ Bel w.heap.size w w' := by
  by_cases hn : n < 0
  · obtain ⟨u, rfl⟩ : ∃ u : Nat, n = -(u : Int) := ⟨n.natAbs, by omega⟩
    rw [itoa_neg u (by omega)]
    exact itoa_neg_walk u (by omega) (by omega) w
  · obtain ⟨u, rfl⟩ : ∃ u : Nat, n = (u : Int) := ⟨n.toNat, by omega⟩
    rw [itoa_nonneg u]
    exact itoa_pos_walk u (by omega) w

end Go.Proofs.Qxb6632449aDoor
