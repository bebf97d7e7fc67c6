import Derived.Test.Qxb6632449aDoorRows
import Derived.WalkKit
import Derived.ProofKit
import Derived.OpenShut
import Derived.ChangeOld
import Derived.Below
import Derived.SliceStrings
import Derived.Lib.AppendStr
import Derived.Deep.AppendLies
import Derived.Deep.Draws
namespace Go.Proofs.Qxb6632449aDoor
open Go.RowKit

theorem hide {p : Prop} (h : p) : Hid p := h
theorem unhide {p : Prop} (h : Hid p) : p := h

/-- Below block B the world is as it was; nothing is said of the tape. -/
structure Bel (B : Nat) (W w : World) : Prop where
  os : w.os = W.os
  output : w.output = W.output
  size : W.heap.size ≤ w.heap.size
  block : ∀ k, k < B → w.heap[k]? = W.heap[k]?

theorem Bel.refl (B : Nat) (w : World) : Bel B w w := ⟨rfl, rfl, Nat.le_refl _, fun _ _ => rfl⟩
theorem Bel.trans {B : Nat} {a b c : World} (h : Bel B a b) (k : Bel B b c) : Bel B a c :=
  ⟨k.os.trans h.os, k.output.trans h.output, Nat.le_trans h.size k.size, fun i hi => (k.block i hi).trans (h.block i hi)⟩
theorem Bel.mono {B B' : Nat} {w w' : World} (h : Bel B w w') (hB : B' ≤ B) : Bel B' w w' := ⟨h.os, h.output, h.size, fun k hk => h.block k (Nat.lt_of_lt_of_le hk hB)⟩
theorem Bel.then {a b c : World} (h : Bel a.heap.size a b) (k : Bel b.heap.size b c) : Bel a.heap.size a c := h.trans (k.mono h.size)
theorem Bel.of {B : Nat} {w w' : World} (h : Below B w w') : Bel B w w' := ⟨h.os, h.output, h.size, h.block⟩
theorem Bel.cell {B : Nat} {w w' : World} (h : Bel B w w') {p : Addr} (hp : p.block < B) : w'.cell? p = w.cell? p := World.cell?_of_block (w := w) (h.block p.block hp)
theorem Bel.frozen {B : Nat} {w w' : World} (h : Bel B w w') {p : Addr} (hp : p.block < B) : w'.frozen? p = w.frozen? p := World.frozen?_of_block (w := w) (h.block p.block hp)
theorem Bel.drew {B : Nat} {a w : World} (h : Bel B a w) : Bel B a w.drew := ⟨h.os, h.output, h.size, h.block⟩
theorem Bel.drewN {B : Nat} {a w : World} (h : Bel B a w) (n : Nat) : Bel B a (w.drewN n) := ⟨h.os, h.output, h.size, h.block⟩
theorem Bel.alloc {B : Nat} {a w : World} (h : Bel B a w) (hB : B ≤ w.heap.size) (o : Obj) : Bel B a (w.alloc o) :=
  h.trans (Bel.of ((Below.refl _ _).alloc hB o))
theorem Bel.setCell {B : Nat} {a w : World} (h : Bel B a w) {p : Addr} (hp : B ≤ p.block) (u : Value) : Bel B a (w.setCell p u) :=
  h.trans (Bel.of ((Below.refl _ _).setCell hp u))
theorem Bel.grown {B : Nat} {a w w' : World} {row : Option Nat} (h : Bel B a w) (hg : w.grownBy w' row) (hB : B ≤ w.heap.size) (hr : ∀ k, row = some k → B ≤ k) : Bel B a w' :=
  h.trans (Bel.of ((Below.refl _ _).grown hg hB hr))
theorem Bel.frame {W w' : World} (h : Bel W.heap.size W w') (may : MemPlace → Prop) : W.keptBut w' may := by
  refine ⟨h.os, h.output, fun i hi => ?_⟩
  rw [h.block i hi]
  split <;> simp_all
theorem Bel.same {W w' : World} (h : Bel W.heap.size W w') {p : MemPlace} (hp : p.block < W.heap.size) : W.sameAt w' p := by
  cases p with
  | cell b o => exact World.cell?_of_block (w := W) (h.block b hp)
  | map b => exact h.block b hp
theorem Bel.trod {H : Type} {enc : TypeId × Value → H} {P : Program} {t : TypeId} (hl : laidOutB P = true) (hr : P.readableRec t = true) (hrow : t < P.types.size) {W W' : World} {v : Value} {d : DataW H} {ps : List MemPlace}
    (h : DataW.Trod enc P W 0 (fun _ => true) true t v d ps) (hb : Bel W.heap.size W W') (hlt : ∀ x ∈ ps, x.block < W.heap.size) :
    DataW.Trod enc P W' 0 (fun b => decide (b < W.heap.size)) true t v d ps :=
  WideElems.Trod_stays hl hr hrow h (fun x hx => hb.same (hlt x hx)) (fun x hx => by simpa using hlt x hx)

/-- What the walks are told of a slice of one-cell elements that came in: cell i holds f i. -/
def Rd (w : World) (a : Option Addr) (len : Nat) (f : Nat → Value) : Prop :=
  0 < len → ∃ b off, a = some ⟨b, off, none⟩ ∧ b < w.heap.size ∧ ∀ i, i < len → w.cell? ⟨b, off + i, none⟩ = some (f i)

theorem Rd.bel {w w' : World} {a : Option Addr} {len : Nat} {f : Nat → Value} (h : Rd w a len f) (hb : Bel w.heap.size w w') : Rd w' a len f := fun hl => by
  obtain ⟨b, off, ha, hlt, hc⟩ := h hl
  exact ⟨b, off, ha, Nat.lt_of_lt_of_le hlt hb.size, fun i hi => (hb.cell (p := ⟨b, off + i, none⟩) hlt).trans (hc i hi)⟩

/-- A block of cells, written out. -/
def Blk (w : World) (g : Nat) (cs : Array Value) (e : TypeId) : Prop := w.heap[g]? = some (.cells cs e (0, 0))

theorem Blk.lt {w : World} {g : Nat} {cs : Array Value} {e : TypeId} (h : Blk w g cs e) : g < w.heap.size := (Array.getElem?_eq_some_iff.1 h).1
theorem Blk.cell {w : World} {g : Nat} {cs : Array Value} {e : TypeId} (h : Blk w g cs e) (j : Nat) : w.cell? ⟨g, j, none⟩ = cs[j]? := cell_of_row w g j cs e (0, 0) h
theorem Blk.bel {w w' : World} {B g : Nat} {cs : Array Value} {e : TypeId} (h : Blk w g cs e) (hb : Bel B w w') (hg : g < B) : Blk w' g cs e := (hb.block g hg).trans h
theorem Blk.grown {w w' : World} {row : Option Nat} {g : Nat} {cs : Array Value} {e : TypeId} (h : Blk w g cs e) (hb : w.grownBy w' row) (hg : some g ≠ row) : Blk w' g cs e := (hb.block g h.lt hg).trans h

theorem Blk.frozen {w : World} {g : Nat} {cs : Array Value} {e : TypeId} (h : Blk w g cs e) (j : Nat) : w.frozen? ⟨g, j, none⟩ = false := frozen_of_row w g j cs e h
theorem Blk.new (w : World) (cs : Array Value) (e : TypeId) : Blk (w.alloc (.cells cs e)) w.heap.size cs e := heap_alloc_new w _
theorem Blk.alloc {w : World} {g : Nat} {cs : Array Value} {e : TypeId} (h : Blk w g cs e) (o : Obj) : Blk (w.alloc o) g cs e := (Below.heap_alloc w o g h.lt).trans h
theorem Blk.setOther {w : World} {g : Nat} {cs : Array Value} {e : TypeId} (h : Blk w g cs e) {p : Addr} (hp : g ≠ p.block) (u : Value) : Blk (w.setCell p u) g cs e := (Below.heap_setCell w p u g hp).trans h
theorem Blk.setSame {w : World} {g : Nat} {cs : Array Value} {e : TypeId} (h : Blk w g cs e) (j : Nat) (u : Value) : Blk (w.setCell ⟨g, j, none⟩ u) g (cs.setIfInBounds j u) e := heap_setCell_same w g j cs e u h
/-- A block that was new when a callee began is there behind it. -/
theorem bel_new {w w1 : World} {cs : Array Value} {e : TypeId} (hb : Bel (w.alloc (.cells cs e)).heap.size (w.alloc (.cells cs e)) w1) : Blk w1 w.heap.size cs e :=
  (Blk.new w cs e).bel hb (by simp)
theorem bel_alloc {w w1 : World} {o : Obj} (hb : Bel (w.alloc o).heap.size (w.alloc o) w1) : Bel w.heap.size w w1 :=
  ((Bel.refl _ _).alloc (Nat.le_refl _) o).trans (hb.mono (by simp))

/-- Two rows of different element types do not share a block. -/
theorem own_ne {w : World} {base : Nat} {e : TypeId} {size : Nat} {v : Value} {n : Nat} {xs : List Value} (h : w.ownsRow base e size v n xs) {g : Nat} {cs : Array Value} {e' : TypeId} (hb : Blk w g cs e') (hne : e' ≠ e) : some g ≠ v.ownBlock := by
  intro hg
  rcases h.2 with ⟨rfl, _⟩ | ⟨g', cap, cur, rfl, _, hh, _⟩
  · cases hg
  · simp [Value.ownBlock] at hg
    subst hg
    rw [Blk, hh] at hb
    simp at hb
    exact hne hb.2.symm

theorem own_own {w : World} {base base' : Nat} {e e' : TypeId} {size size' : Nat} {v v' : Value} {n n' : Nat} {xs xs' : List Value} (h : w.ownsRow base e size v n xs) (h' : w.ownsRow base' e' size' v' n' xs') (hne : e' ≠ e) : v'.ownBlock = none ∨ v'.ownBlock ≠ v.ownBlock := by
  rcases h'.2 with ⟨rfl, _⟩ | ⟨g', cap, cur, rfl, _, hh, _⟩
  · exact .inl rfl
  · exact .inr (own_ne h (g := g') (cs := cur) hh hne)

theorem own_blk {w : World} {base : Nat} {e : TypeId} {g n cap : Nat} {xs : List Value} (h : w.ownsRow base e 1 (.slice (some ⟨g, 0, none⟩) n cap) n xs) : ∃ cur, Blk w g cur e ∧ ∀ j, j < n → cur[j]? = xs[j]? := by
  rcases h.2 with ⟨h', _⟩ | ⟨g', cap', cur, h', hb, hg, hnc, hcm, hcs, htake⟩
  · simp at h'
  · simp only [Value.slice.injEq, Option.some.injEq, Addr.mk.injEq, and_true, true_and] at h'
    obtain ⟨rfl, rfl⟩ := h'
    refine ⟨cur, hg, fun j hj => ?_⟩
    rw [← htake, List.getElem?_take, if_pos (by omega)]
    simp

end Go.Proofs.Qxb6632449aDoor
