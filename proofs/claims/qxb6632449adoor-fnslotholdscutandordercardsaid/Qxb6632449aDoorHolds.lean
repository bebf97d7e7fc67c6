import Derived.Test.Qxb6632449aDoorItoa2
import Derived.Laws.Concat
import Derived.OwnWalk
namespace Go.Proofs.Qxb6632449aDoor
open Go.RowKit
set_option linter.unusedVariables false

/-- The library's table of powers of ten reads as its text lays it. -/
def Tab (w : World) : Prop := Lib.TabIs Tryd.prog w "internal/strconv.uint64pow10" .u64 Lib.pow10Tab

theorem Tab.bel {w w' : World} (h : Tab w) (hb : Bel w.heap.size w w') : Tab w' := by
  unfold Tab Lib.TabIs World.var? at *
  cases hg : Tryd.prog.globalNamed "internal/strconv.uint64pow10" with
  | none => simp [hg] at h
  | some g =>
    simp only [hg, Option.bind_some] at h ⊢
    have hlt : g < w.heap.size := by
      rcases Nat.lt_or_ge g w.heap.size with h' | h'
      · exact h'
      · rw [Array.getElem?_eq_none h'] at h; simp at h
    rw [hb.block g hlt]
    exact h

theorem bel_grow (w : World) (k : Nat) (os : Array Obj) : Bel w.heap.size w (Sort.grow (w.drewN k) os) := by
  refine ⟨rfl, rfl, by simp [World.drewN], fun i hi => ?_⟩
  show (w.heap ++ os)[i]? = w.heap[i]?
  rw [Array.getElem?_append_left hi]

/-- key, "#", and n in decimal. -/
def slotKey (key : ByteArray) (n : Int) : ByteArray := key ++ (⟨#[35]⟩ : ByteArray) ++ (⟨(Lib.itoa n).toArray⟩ : ByteArray)

theorem itoa_size (n : Int) (h0 : -9223372036854775808 ≤ n) (h1 : n ≤ 9223372036854775807) : (⟨(Lib.itoa n).toArray⟩ : ByteArray).size ≤ 21 := by
  have := Lib.itoa_length_le n h0 h1
  simpa [ByteArray.size] using this

theorem add_hash (key : ByteArray) (hk : key.size ≤ 1048576) (w : World) : (Op.stringOp .add key (⟨#[35]⟩ : ByteArray)).run Tryd.prog w = .ok (.string (key ++ (⟨#[35]⟩ : ByteArray))) w :=
  run_string_add_sum (P := Tryd.prog) w key ⟨#[35]⟩ (by have : (⟨#[35]⟩ : ByteArray).size = 1 := rfl; omega)

theorem add_num (key : ByteArray) (n : Int) (hk : key.size ≤ 1048576) (h0 : -9223372036854775808 ≤ n) (h1 : n ≤ 9223372036854775807) (w : World) :
    (Op.stringOp .add (key ++ (⟨#[35]⟩ : ByteArray)) (⟨(Lib.itoa n).toArray⟩ : ByteArray)).run Tryd.prog w = .ok (.string (slotKey key n)) w :=
  run_string_add_sum (P := Tryd.prog) w _ _ (by
    have e : (⟨#[35]⟩ : ByteArray).size = 1 := rfl
    have := itoa_size n h0 h1
    rw [ByteArray.size_append]
    omega)

theorem slotKey_any (key : ByteArray) (n : Int) (hk : key.size ≤ 1048576) (h0 : -9223372036854775808 ≤ n) (h1 : n ≤ 9223372036854775807) (w : World) (ht : Tab w) :
    Calls Tryd.prog 10 #[.string key, .int .i64 n] w fun e w' => e = .returned (.string (slotKey key n)) ∧ Bel w.heap.size w w' := by
  have a1 := add_hash key hk
  have a2 := add_num key n hk h0 h1
  have HT := hide ht
  clear ht
  go_enter Tryd.func10, Tryd.ntmps10
  go_wp2_with fail
  refine (itoa_lib n h0 h1 _ (unhide HT)).mono ?_
  rintro e w' ⟨rfl, k, os, rfl⟩
  have HB := hide (bel_grow w k os)
  generalize Sort.grow (w.drewN k) os = w1 at HB
  go_wp2
  go_ret
  exact ⟨rfl, unhide HB⟩

/-- The cells of one hold. -/
def hcells (lv : Int) (key : ByteArray) (ex : Bool) : List Value := [.int .i64 lv, .string key, .bool ex]
theorem hcells_one (lv : Int) (key : ByteArray) (ex : Bool) : ∀ u ∈ hcells lv key ex, u.oneCell' = true := by
  intro u hu
  simp [hcells] at hu
  rcases hu with rfl | rfl | rfl <;> rfl

/-- The cells of the first k shared holds. -/
def shared (ks : Nat → ByteArray) : Nat → List Value
  | 0 => []
  | k + 1 => shared ks k ++ hcells (k : Int) (ks k) false
theorem shared_len (ks : Nat → ByteArray) (k : Nat) : (shared ks k).length = k * 3 := by
  induction k with
  | zero => rfl
  | succ k ih => simp [shared, hcells, ih]; omega

theorem shared_at (ks : Nat → ByteArray) (k i : Nat) (h : i < k) (rest : List Value) : (shared ks k ++ rest)[i * 3]? = some (.int .i64 (i : Int)) ∧ (shared ks k ++ rest)[i * 3 + 1]? = some (.string (ks i)) ∧ (shared ks k ++ rest)[i * 3 + 2]? = some (.bool false) := by
  induction k generalizing rest with
  | zero => omega
  | succ k ih =>
    by_cases hi : i < k
    · have := ih hi (hcells (k : Int) (ks k) false ++ rest)
      simpa [shared, List.append_assoc] using this
    · obtain rfl : i = k := by omega
      have hl := shared_len ks i
      refine ⟨?_, ?_, ?_⟩
      · simp only [shared, List.append_assoc]; rw [List.getElem?_append_right (by omega), hl]; simp [hcells]
      · simp only [shared, List.append_assoc]; rw [List.getElem?_append_right (by omega), hl, show i * 3 + 1 - i * 3 = 1 by omega]; simp [hcells]
      · simp only [shared, List.append_assoc]; rw [List.getElem?_append_right (by omega), hl, show i * 3 + 2 - i * 3 = 2 by omega]; simp [hcells]

/-- What SlotHolds leaves: the shared holds, and the exclusive one behind them. -/
structure Hs (w : World) (g : Nat) (ks : Nat → ByteArray) (l : Nat) (n : Int) : Prop where
  lt : g < w.heap.size
  sh : ∀ i, i < l → w.cell? ⟨g, i * 3, none⟩ = some (.int .i64 (i : Int)) ∧ w.cell? ⟨g, i * 3 + 1, none⟩ = some (.string (ks i)) ∧ w.cell? ⟨g, i * 3 + 2, none⟩ = some (.bool false)
  ex : w.cell? ⟨g, l * 3, none⟩ = some (.int .i64 ((l : Int) - 1)) ∧ w.cell? ⟨g, l * 3 + 1, none⟩ = some (.string (slotKey (ks (l - 1)) n)) ∧ w.cell? ⟨g, l * 3 + 2, none⟩ = some (.bool true)

theorem Hs.bel {w w' : World} {g : Nat} {ks : Nat → ByteArray} {l : Nat} {n : Int} (h : Hs w g ks l n) (hb : Bel w.heap.size w w') : Hs w' g ks l n := by
  have hc : ∀ o, w'.cell? ⟨g, o, none⟩ = w.cell? ⟨g, o, none⟩ := fun o => hb.cell (p := ⟨g, o, none⟩) h.lt
  refine ⟨Nat.lt_of_lt_of_le h.lt hb.size, fun i hi => ?_, ?_⟩
  · rw [hc, hc, hc]; exact h.sh i hi
  · rw [hc, hc, hc]; exact h.ex

def HoldsOut (w : World) (ks : Nat → ByteArray) (l : Nat) (n : Int) (e : Ending) (w' : World) : Prop :=
  ∃ g cap, e = .returned (.slice (some ⟨g, 0, none⟩) (l + 1) cap) ∧ Bel w.heap.size w w' ∧ Hs w' g ks l n

theorem own_cells {w : World} {base : Nat} {e : TypeId} {g n cap : Nat} {xs : List Value} (h : w.ownsRow base e 3 (.slice (some ⟨g, 0, none⟩) n cap) n xs) : g < w.heap.size ∧ ∀ j, j < n * 3 → w.cell? ⟨g, j, none⟩ = xs[j]? := by
  rcases h.2 with ⟨h', _⟩ | ⟨g', cap', cur, h', hb, hg, hnc, hcm, hcs, htake⟩
  · simp at h'
  · simp only [Value.slice.injEq, Option.some.injEq, Addr.mk.injEq, and_true, true_and] at h'
    obtain ⟨rfl, rfl⟩ := h'
    refine ⟨(Array.getElem?_eq_some_iff.1 hg).1, fun j hj => ?_⟩
    rw [cell_of_row w g j cur e (0, 0) hg, ← htake, List.getElem?_take, if_pos hj]
    simp

theorem Hs.of_own {w : World} {base : Nat} {g l cap : Nat} {ks : Nat → ByteArray} {n : Int} (hl : 1 ≤ l) (h : w.ownsRow base 27 3 (.slice (some ⟨g, 0, none⟩) (l + 1) cap) (l + 1) (shared ks l ++ hcells ((l : Int) - 1) (slotKey (ks (l - 1)) n) true)) : Hs w g ks l n := by
  obtain ⟨hlt, hc⟩ := own_cells h
  refine ⟨hlt, fun i hi => ?_, ?_⟩
  · rw [hc _ (by omega), hc _ (by omega), hc _ (by omega)]
    exact shared_at ks l i hi _
  · have hs := shared_len ks l
    rw [hc _ (by omega), hc _ (by omega), hc _ (by omega), List.getElem?_append_right (by omega), List.getElem?_append_right (by omega), List.getElem?_append_right (by omega), hs,
      show l * 3 + 1 - l * 3 = 1 by omega, show l * 3 + 2 - l * 3 = 2 by omega]
    simp [hcells]

theorem new_hold (w : World) (lv : Int) (key : ByteArray) (ex : Bool) : ∀ j u, (hcells lv key ex)[j]? = some u → (w.alloc (.cells #[.int .i64 lv, .string key, .bool ex] 27)).cell? ((⟨w.heap.size, 0, none⟩ : Addr).add j) = some u :=
  World.news_of_block (w := w.alloc (.cells #[.int .i64 lv, .string key, .bool ex] 27)) (B := w.heap.size) (Blk.new w _ _)

end Go.Proofs.Qxb6632449aDoor
