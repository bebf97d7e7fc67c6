import Derived.Test.Qxb6632449aDoorGuards
import Derived.Test.Qxb6632449aDoorDigits
import Derived.Laws.IdiomStrings
import Derived.Lib.ItoaLen
namespace Go.Proofs.Qxb6632449aDoor
open Go.RowKit Go.Lib
set_option linter.unusedVariables false

/-- The digits D that are written already, from place k of the array on; v is still to be written. -/
structure It (w0 : World) (u0 v k : Nat) (D : List UInt8) (cs : Array Value) (w : World) : Prop where
  dig : decDigits u0 = decDigits v ++ D
  le : v ≤ u0
  pl : k + D.length = 24
  blk : Blk w w0.heap.size cs 32
  size : cs.size = 24
  at_ : ∀ t (h : t < D.length), cs[k + t]? = some (.int .u8 (D[t].toNat : Int))
  bel : Bel w0.heap.size w0 w

theorem It.room {w0 w : World} {u0 v k : Nat} {D : List UInt8} {cs : Array Value} (h : It w0 u0 v k D cs w) (hu : u0 < 18446744073709551616) : 5 ≤ k := by
  have h1 := congrArg List.length h.dig
  rw [List.length_append, decDigits_length] at h1
  have h2 := nDigits_le20 u0 hu
  have h3 := decDigits_pos v
  have h4 := h.pl
  omega

/-- Where every digit is written. -/
structure ItEnd (w0 : World) (l : List UInt8) (k : Nat) (cs : Array Value) (w : World) : Prop where
  pl : k + l.length = 24
  blk : Blk w w0.heap.size cs 32
  size : cs.size = 24
  at_ : ∀ t (h : t < l.length), cs[k + t]? = some (.int .u8 (l[t].toNat : Int))
  bel : Bel w0.heap.size w0 w

theorem at_cons {k : Nat} {D : List UInt8} {cs : Array Value} (hs : cs.size = 24) (hk : k < 24) (ha : ∀ t (h : t < D.length), cs[k + 1 + t]? = some (.int .u8 (D[t].toNat : Int))) (b : UInt8) :
    ∀ t (h : t < (b :: D).length), (cs.setIfInBounds k (.int .u8 (b.toNat : Int)))[k + t]? = some (.int .u8 ((b :: D)[t].toNat : Int)) := by
  intro t h
  cases t with
  | zero => simp [hs, hk]
  | succ t =>
    rw [Array.getElem?_setIfInBounds_ne (by omega), show k + (t + 1) = k + 1 + t by omega, ha t (by simpa using h)]
    simp

theorem digit_byte (v : Nat) : (UInt8.ofNat (48 + v % 10)).toNat = 48 + v % 10 := by simp; omega

theorem It.more {w0 w : World} {u0 v k : Nat} {D : List UInt8} {cs : Array Value} (h : It w0 u0 v (k + 1) D cs w) (hv : ¬ v < 10) :
    It w0 u0 (v / 10) k (UInt8.ofNat (48 + v % 10) :: D) (cs.setIfInBounds k (.int .u8 ((48 + v % 10 : Nat) : Int))) (w.setCell ⟨w0.heap.size, k, none⟩ (.int .u8 ((48 + v % 10 : Nat) : Int))) := by
  have h4 := h.pl
  refine ⟨?_, by have := h.le; omega, by simp; omega, h.blk.setSame k _, by simp [h.size], ?_, h.bel.setCell (p := ⟨w0.heap.size, k, none⟩) (Nat.le_refl _) _⟩
  · rw [h.dig, decDigits.eq_def v, dif_neg hv, List.append_assoc]; rfl
  · have := at_cons h.size (by omega) h.at_ (UInt8.ofNat (48 + v % 10))
    rw [digit_byte] at this
    exact this

theorem It.last {w0 w : World} {u0 v k : Nat} {D : List UInt8} {cs : Array Value} (h : It w0 u0 v (k + 1) D cs w) (hv : v < 10) :
    ItEnd w0 (decDigits u0) k (cs.setIfInBounds k (.int .u8 ((48 + v : Nat) : Int))) (w.setCell ⟨w0.heap.size, k, none⟩ (.int .u8 ((48 + v : Nat) : Int))) := by
  have h4 := h.pl
  have e : decDigits u0 = UInt8.ofNat (48 + v) :: D := by rw [h.dig, decDigits_one hv]; rfl
  have e2 : (UInt8.ofNat (48 + v)).toNat = 48 + v := by simp; omega
  rw [e]
  refine ⟨by simp; omega, h.blk.setSame k _, by simp [h.size], ?_, h.bel.setCell (p := ⟨w0.heap.size, k, none⟩) (Nat.le_refl _) _⟩
  have := at_cons h.size (by omega) h.at_ (UInt8.ofNat (48 + v))
  rw [e2] at this
  exact this

theorem ItEnd.minus {w0 w : World} {l : List UInt8} {k : Nat} {cs : Array Value} (h : ItEnd w0 l (k + 1) cs w) : ItEnd w0 (45 :: l) k (cs.setIfInBounds k (.int .u8 45)) (w.setCell ⟨w0.heap.size, k, none⟩ (.int .u8 45)) := by
  have h4 := h.pl
  refine ⟨by simp; omega, h.blk.setSame k _, by simp [h.size], ?_, h.bel.setCell (p := ⟨w0.heap.size, k, none⟩) (Nat.le_refl _) _⟩
  have := at_cons h.size (by omega) h.at_ (45 : UInt8)
  exact this

theorem ItEnd.text {w0 w : World} {l : List UInt8} {k : Nat} {cs : Array Value} (h : ItEnd w0 l k cs w) (cap : Nat) : (convert 33 9 (.slice (some ⟨w0.heap.size, k, none⟩) l.length cap)).run Tryd.prog w = .ok (.string ⟨l.toArray⟩) w :=
  run_convert_bytes_back w 33 9 5 ⟨w0.heap.size, k, none⟩ cap l Tryd.underlying33 Tryd.underlying5 Tryd.underlying9 fun j hj => by
    rw [Lib.add_plain, h.blk.cell]
    exact h.at_ j hj

theorem It.first (w : World) (u0 : Nat) : It w u0 u0 24 [] zeros24 (w.alloc (.cells zeros24 32)) :=
  ⟨by simp, Nat.le_refl _, rfl, Blk.new _ _ _, by simp [zeros24], fun t h => by simp at h, (Bel.refl _ _).alloc (Nat.le_refl _) _⟩

end Go.Proofs.Qxb6632449aDoor
