import Derived.Test.Qxb6632274aRows
import Derived.WalkKit
import Derived.ProofKit
import Derived.OpenShut
import Derived.ChangeOld
import Derived.Below
import Derived.Deep.Onto
namespace Go.Proofs.Qxb6632274a
open Go.RowKit

/-- Below block B the world is as it was; nothing is said of the tape. -/
structure Bel (B : Nat) (W w : World) : Prop where
  os : w.os = W.os
  output : w.output = W.output
  size : W.heap.size ≤ w.heap.size
  block : ∀ k, k < B → w.heap[k]? = W.heap[k]?

theorem Bel.refl (B : Nat) (w : World) : Bel B w w := ⟨rfl, rfl, Nat.le_refl _, fun _ _ => rfl⟩
theorem Bel.trans {B : Nat} {a b c : World} (h : Bel B a b) (k : Bel B b c) : Bel B a c :=
  ⟨k.os.trans h.os, k.output.trans h.output, Nat.le_trans h.size k.size, fun i hi => (k.block i hi).trans (h.block i hi)⟩
theorem Bel.mono {B B' : Nat} {w w' : World} (h : Bel B w w') (hB : B' ≤ B) : Bel B' w w' := ⟨h.os, h.output, h.size, fun k hk => h.block k (Nat.lt_of_lt_of_le hk hB)⟩
theorem Bel.of {B : Nat} {w w' : World} (h : Below B w w') : Bel B w w' := ⟨h.os, h.output, h.size, h.block⟩
theorem Bel.cell {B : Nat} {w w' : World} (h : Bel B w w') {p : Addr} (hp : p.block < B) : w'.cell? p = w.cell? p := World.cell?_of_block (w := w) (h.block p.block hp)
theorem Bel.frozen {B : Nat} {w w' : World} (h : Bel B w w') {p : Addr} (hp : p.block < B) : w'.frozen? p = w.frozen? p := World.frozen?_of_block (w := w) (h.block p.block hp)
theorem Bel.drew {B : Nat} {a w : World} (h : Bel B a w) : Bel B a w.drew := ⟨h.os, h.output, h.size, h.block⟩
theorem Bel.frame {W w' : World} (h : Bel W.heap.size W w') (may : MemPlace → Prop) : W.keptBut w' may := by
  refine ⟨h.os, h.output, fun i hi => ?_⟩
  rw [h.block i hi]
  split <;> simp_all
theorem Bel.same {W w' : World} (h : Bel W.heap.size W w') {p : MemPlace} (hp : p.block < W.heap.size) : W.sameAt w' p := by
  cases p with
  | cell b o => exact World.cell?_of_block (w := W) (h.block b hp)
  | map b => exact h.block b hp
theorem Bel.trod {H : Type} {enc : TypeId × Value → H} {P : Program} {t : TypeId} (hl : laidOutB P = true) (hr : P.readableRec t = true) (hrow : t < P.types.size) {W W' : World} {v : Value} {d : DataW H} {ps : List MemPlace}
    (h : DataW.Trod enc P W 0 (fun _ => true) true t v d ps) (hb : Bel W.heap.size W W') (hlt : ∀ x ∈ ps, x.block < W.heap.size) :
    DataW.Trod enc P W' 0 (fun b => decide (b < W.heap.size)) true t v d ps :=
  WideElems.Trod_stays hl hr hrow h (fun x hx => hb.same (hlt x hx)) (fun x hx => by simpa using hlt x hx)

/-- What the walks are told of a slice that came in: its elements' cells, where it has any. -/
def Rd (w : World) (a : Option Addr) (len : Nat) (zs : List Int) : Prop :=
  zs.length = len ∧ (0 < len → ∃ b off, a = some ⟨b, off, none⟩ ∧ b < w.heap.size ∧ ∀ i, i < len → w.cell? ⟨b, off + i, none⟩ = some (.int .i64 (zs.getD i 0)))

theorem Rd.bel {w w' : World} {a : Option Addr} {len : Nat} {zs : List Int} (h : Rd w a len zs) (hb : Bel w.heap.size w w') : Rd w' a len zs :=
  ⟨h.1, fun hl => by
    obtain ⟨b, off, ha, hlt, hc⟩ := h.2 hl
    exact ⟨b, off, ha, Nat.lt_of_lt_of_le hlt hb.size, fun i hi => (hb.cell (p := ⟨b, off + i, none⟩) hlt).trans (hc i hi)⟩⟩

/-- The cells of a list of numbers. -/
def vals (zs : List Int) : List Value := zs.map (Value.int .i64)
theorem vals_len (zs : List Int) : (vals zs).length = zs.length := by simp [vals]
theorem vals_get (zs : List Int) (i : Nat) (h : i < zs.length) : (vals zs)[i]? = some (.int .i64 (zs.getD i 0)) := by simp [vals, List.getD, h]
theorem vals_one (zs : List Int) : ∀ u ∈ vals zs, u.oneCell' = true := ints_oneCell .i64 zs

/-- A keeping without exception leaves every block as it was. -/
theorem Bel.ofKept {W w : World} {may : MemPlace → Prop} (h : W.keptBut w may) (hn : ∀ p, ¬ may p) : Bel W.heap.size W w := by
  refine ⟨h.1, h.2.1, h.size, fun k hk => ?_⟩
  have := h.2.2 k hk
  split at this
  · rename_i c t fr c' t' fr' e1 e2
    obtain ⟨rfl, rfl, hs, hc⟩ := this
    rw [e1, e2]
    have : c' = c := Array.ext_getElem? fun j => hc j (hn _)
    rw [this]
  · rename_i e1 e2
    rcases this with h' | ⟨rfl, rfl⟩
    · exact absurd h' (hn _)
    · rw [e1, e2]
  · exact this

/-- Blocks other than the one that was written are as they were. -/
theorem block_ofKept {W w : World} {may : MemPlace → Prop} (h : W.keptBut w may) (k : Nat) (hk : k < W.heap.size) (hc : ∀ j, ¬ may (.cell k j)) (hm : ¬ may (.map k)) : w.heap[k]? = W.heap[k]? := by
  have := h.2.2 k hk
  split at this
  · rename_i c t fr c' t' fr' e1 e2
    obtain ⟨rfl, rfl, hs, hc'⟩ := this
    rw [e1, e2]
    have : c' = c := Array.ext_getElem? fun j => hc' j (hc _)
    rw [this]
  · rename_i e1 e2
    rcases this with h' | ⟨rfl, rfl⟩
    · exact absurd h' hm
    · rw [e1, e2]
  · exact this

/-- A full slice that was appended to: nothing old has turned. -/
theorem Bel.ofOnto {W : World} {e : TypeId} {ao : Option Addr} {b off len : Nat} {olds : List Value} {w : World} {v : Value} {m : Nat} {ks : List Value}
    (h : Onto W e 1 ao b off len len olds w v m ks) : Bel W.heap.size W w :=
  Bel.ofKept h.kept (fun p ⟨j, _, h2, _⟩ => by simp at h2)

/-- 'Came' looks at one block alone. -/
theorem Came_bel {W w : World} {ao : Option Addr} {b off len cap : Nat} {olds : List Value} (h : Came W 1 ao b off len cap olds) (hb : Bel W.heap.size W w) : Came w 1 ao b off len cap olds := by
  refine ⟨h.le, h.addr, fun hc => Nat.lt_of_lt_of_le (h.lt hc) hb.size, h.oldsLen, fun j u hu => ?_, fun j hj => ?_⟩
  · have hj := (List.getElem?_eq_some_iff.1 hu).1
    have : 0 < cap := by have := h.oldsLen; have := h.le; omega
    rw [hb.cell (p := ⟨b, off + j, none⟩) (h.lt this)]; exact h.olds j u hu
  · have : 0 < cap := by omega
    rw [hb.cell (p := ⟨b, off + len * 1 + j, none⟩) (h.lt this), hb.frozen (p := ⟨b, off + len * 1 + j, none⟩) (h.lt this)]; exact h.spare j hj

/-- An owned row, as something that came in. -/
theorem Came_own {w : World} {base : Nat} {e : TypeId} {g n cap : Nat} {xs : List Value} (h : w.ownsRow base e 1 (.slice (some ⟨g, 0, none⟩) n cap) n xs) : Came w 1 (some ⟨g, 0, none⟩) g 0 n cap xs := by
  have hlt := h.lt g rfl
  rcases h.2 with ⟨h', _⟩ | ⟨g', cap', cur, h', hb, hg, hnc, hcm, hcs, htake⟩
  · simp at h'
  · simp only [Value.slice.injEq, Option.some.injEq, Addr.mk.injEq, and_true, true_and] at h'
    obtain ⟨rfl, rfl⟩ := h'
    refine ⟨hnc, fun _ => rfl, fun _ => hlt.2, h.1, fun j u hu => ?_, fun j hj => ?_⟩
    · have hj := (List.getElem?_eq_some_iff.1 hu).1
      rw [Nat.zero_add, h.cellAt j (by have := h.1; omega)]; exact hu
    · refine ⟨?_, h.frozenAt _⟩
      rw [cell_of_row w g _ cur e (0, 0) hg]
      rw [Array.getElem?_eq_getElem (by omega)]; rfl

theorem Came_nil (w : World) (b off : Nat) : Came w 1 none b off 0 0 [] :=
  ⟨Nat.le_refl _, fun h => by omega, fun h => by omega, rfl, fun j u h => by simp at h, fun j h => by simp at h⟩

theorem set_step (zs : List Int) (n k : Nat) (hz : zs.length = n) (hk : k < n) : (vals (zs.take k ++ List.replicate (n - k) 0)).set k (.int .i64 (zs.getD k 0)) = vals (zs.take (k + 1) ++ List.replicate (n - (k + 1)) 0) := by
  have e1 : List.replicate (n - k) (0 : Int) = 0 :: List.replicate (n - (k + 1)) 0 := by rw [show n - k = (n - (k + 1)) + 1 by omega]; rfl
  have e2 : zs.take (k + 1) = zs.take k ++ [zs.getD k 0] := by
    rw [List.take_succ_eq_append_getElem (by omega)]; simp [List.getD, show k < zs.length by omega]
  have hl : (zs.take k).length = k := by rw [List.length_take]; omega
  rw [e1, e2]
  simp only [vals, List.map_append, List.map_cons, List.append_assoc, List.cons_append, List.nil_append]
  rw [List.set_append_right _ _ (by simp; omega)]
  simp [show k - min k zs.length = 0 by omega]

end Go.Proofs.Qxb6632274a
