import Derived.Test.Qxb6632449aDoorLess
import Derived.Laws.CopyOwn
import Derived.Laws.StructEq
import Derived.Deep.DeepCutAuto
import Derived.Deep.CutBlock
import Derived.Deep.RegionWith
import Derived.Deep.RegionHeld3
import Derived.Deep.DrawnRows
namespace Go.Proofs.Qxb6632449aDoor
open Go.RowKit
set_option linter.unusedVariables false

theorem Tryd.info9 : (Tryd.prog.info? 9).map (fun i => (i.zero, i.size, i.bytes)) = some (some (.string ⟨#[]⟩), 1, 16) := by kernel_rfl

theorem hold_same (lv : Int) (s : ByteArray) (e : Bool) (w : World) : (binOp .neq 27 (.agg #[.int .i64 lv, .string s, .bool e]) (.agg #[.int .i64 lv, .string s, .bool e])).run Tryd.prog w = .ok (.bool false) w := by
  simp [go_sem, Tryd.underlying27, Tryd.underlying3, Tryd.underlying9, Tryd.underlying4]

/-- The cells of the strings. -/
def strs (ks : Nat → ByteArray) (l : Nat) : List Value := (List.range l).map fun i => .string (ks i)
theorem strs_len (ks : Nat → ByteArray) (l : Nat) : (strs ks l).length = l := by simp [strs]
theorem strs_at (ks : Nat → ByteArray) (l i : Nat) (h : i < l) : (strs ks l)[i]? = some (.string (ks i)) := by simp [strs, h]
theorem strs_one (ks : Nat → ByteArray) (l : Nat) : ∀ u ∈ strs ks l, u.oneCell' = true := by
  intro u hu
  simp [strs] at hu
  obtain ⟨i, _, rfl⟩ := hu
  rfl

theorem own_full {w : World} {base : Nat} {e : TypeId} {g l : Nat} {xs : List Value} (h : w.ownsRow base e 1 (.slice (some ⟨g, 0, none⟩) l l) l xs) : Blk w g xs.toArray e := by
  rcases h.2 with ⟨h', _⟩ | ⟨g', cap', cur, h', hb, hg, hnc, hcm, hcs, htake⟩
  · simp at h'
  · simp only [Value.slice.injEq, Option.some.injEq, Addr.mk.injEq, and_true, true_and] at h'
    obtain ⟨rfl, rfl⟩ := h'
    rw [List.take_of_length_le (by simp; omega)] at htake
    subst htake
    simpa [Blk] using hg

theorem splice_all (L cs : List Value) (h : L.length = cs.length) : splice L 0 cs = cs := by
  simp [splice, ← h]

theorem blk_rd {w : World} {g l : Nat} {ks : Nat → ByteArray} (h : Blk w g (strs ks l).toArray 9) : Rd w (some ⟨g, 0, none⟩) l (fun i => .string (ks i)) := fun _ =>
  ⟨g, 0, rfl, h.lt, fun i hi => by rw [h.cell, Nat.zero_add]; simpa using strs_at ks l i hi⟩

theorem rd_src {w : World} {ad : Addr} {l : Nat} {ks : Nat → ByteArray} (h : Rd w (some ad) l (fun i => .string (ks i))) : 0 < l → ∀ j v, (strs ks l)[j]? = some v → w.cell? (ad.add j) = some v := by
  intro hl j v hj
  obtain ⟨b, off, ha, hlt, hc⟩ := h hl
  obtain rfl := Option.some.inj ha
  have hjl : j < l := by
    rcases Nat.lt_or_ge j l with h1 | h1
    · exact h1
    · rw [List.getElem?_eq_none (by rw [strs_len]; exact h1)] at hj; cases hj
  rw [strs_at ks l j hjl] at hj
  cases hj
  rw [Lib.add_plain]
  exact hc j hjl

/-- The copy 'want', its first k strings written. -/
structure Wn (w0 : World) (ks : Nat → ByteArray) (l k : Nat) (cs : Array Value) (w : World) : Prop where
  blk : Blk w w0.heap.size cs 9
  size : cs.size = l
  at_ : ∀ t, t < k → cs[t]? = some (.string (ks t))
  bel : Bel w0.heap.size w0 w

theorem Wn.next {w0 w : World} {ks : Nat → ByteArray} {l k : Nat} {cs : Array Value} (h : Wn w0 ks l k cs w) (hk : k < l) : Wn w0 ks l (k + 1) (cs.setIfInBounds k (.string (ks k))) (w.setCell ⟨w0.heap.size, k, none⟩ (.string (ks k))) := by
  refine ⟨h.blk.setSame k _, by simp [h.size], fun t ht => ?_, h.bel.setCell (p := ⟨w0.heap.size, k, none⟩) (Nat.le_refl _) _⟩
  by_cases he : t = k
  · subst he
    simp [h.size, hk]
  · rw [Array.getElem?_setIfInBounds_ne (by omega)]
    exact h.at_ t (by omega)

/-- What the tests behind the two calls read. -/
structure Li (w0 : World) (g1 : Nat) (cs : Array Value) (ga gb : Nat) (ks : Nat → ByteArray) (la lb : Nat) (x y : Int) (w : World) : Prop where
  wn : Blk w g1 cs 9
  ha : Hs w ga ks la x
  hb : Hs w gb ks lb y
  bel : Bel w0.heap.size w0 w

theorem Li.step {w0 w w' : World} {g1 ga gb la lb : Nat} {cs : Array Value} {ks : Nat → ByteArray} {x y : Int} (hb : Bel w.heap.size w w') (h : Li w0 g1 cs ga gb ks la lb x y w) : Li w0 g1 cs ga gb ks la lb x y w' :=
  ⟨h.wn.bel hb h.wn.lt, h.ha.bel hb, h.hb.bel hb, h.bel.then hb⟩

theorem rd0 {w : World} {g l : Nat} {f : Nat → Value} (h : Rd w (some ⟨g, 0, none⟩) l f) {i : Nat} (hi : i < l) : g < w.heap.size ∧ w.cell? ⟨g, i, none⟩ = some (f i) := by
  obtain ⟨b, off, ha, hlt, hc⟩ := h (by omega)
  simp only [Option.some.injEq, Addr.mk.injEq, and_true] at ha
  obtain ⟨rfl, rfl⟩ := ha
  have := hc i hi
  rw [Nat.zero_add] at this
  exact ⟨hlt, this⟩

theorem Blk.three {w : World} {g : Nat} {x y z : Value} {e : TypeId} (h : Blk w g #[x, y, z] e) : w.cell? ⟨g, 0, none⟩ = some x ∧ w.cell? ⟨g, 1, none⟩ = some y ∧ w.cell? ⟨g, 2, none⟩ = some z := by
  have c0 := h.cell 0
  have c1 := h.cell 1
  have c2 := h.cell 2
  simp only [List.getElem?_toArray, List.getElem?_cons_zero, List.getElem?_cons_succ] at c0 c1 c2
  exact ⟨c0, c1, c2⟩

theorem Blk.put3 {w : World} {g : Nat} {x y z : Value} {e : TypeId} (h : Blk w g #[x, y, z] e) (a b c : Value) : Blk (((w.setCell ⟨g, 0, none⟩ a).setCell ⟨g, 1, none⟩ b).setCell ⟨g, 2, none⟩ c) g #[a, b, c] e := by
  have := ((h.setSame 0 a).setSame 1 b).setSame 2 c
  simpa using this

theorem Bel.put3 {W w : World} {B g : Nat} (h : Bel B W w) (hg : B ≤ g) (a b c : Value) : Bel B W (((w.setCell ⟨g, 0, none⟩ a).setCell ⟨g, 1, none⟩ b).setCell ⟨g, 2, none⟩ c) :=
  ((h.setCell (p := ⟨g, 0, none⟩) hg _).setCell (p := ⟨g, 1, none⟩) hg _).setCell (p := ⟨g, 2, none⟩) hg _

/-- The cells of a zero hold. -/
def zhold : Obj := .cells #[.int .i64 0, .string ⟨#[]⟩, .bool false] 27
theorem blk_zero1 {w wk : World} (hb : Bel (w.alloc (.cells #[.int .i64 0, .string ⟨#[]⟩, .bool false] 27)).heap.size (w.alloc (.cells #[.int .i64 0, .string ⟨#[]⟩, .bool false] 27)) wk) : Blk wk w.heap.size #[.int .i64 0, .string ⟨#[]⟩, .bool false] 27 := bel_new hb
theorem blk_zero2 {w wk : World} (hb : Bel (w.alloc (.cells #[.int .i64 0, .string ⟨#[]⟩, .bool false] 27)).drew.heap.size (w.alloc (.cells #[.int .i64 0, .string ⟨#[]⟩, .bool false] 27)).drew wk) : Blk wk w.heap.size #[.int .i64 0, .string ⟨#[]⟩, .bool false] 27 :=
  (show Blk (w.alloc (.cells #[.int .i64 0, .string ⟨#[]⟩, .bool false] 27)).drew w.heap.size _ 27 from Blk.new w _ _).bel hb (by simp [World.drew])

theorem index_last (g m : Nat) (hm : 1 ≤ m) (c : Nat) (W : World) : (Instr.indexAt 22 (.slice (some ⟨g, 0, none⟩) m c) (.int .i64 ((m : Int) - 1))).run Tryd.prog W = .ok (.pointer (some ⟨g, m - 1, none⟩)) W := by
  have e2 : Tryd.prog.elem 22 = 9 := by kernel_rfl
  have e3 : (sizeOf 9).run Tryd.prog W = .ok 1 W := by kernel_rfl
  rw [run_indexAt_slice W 22 ⟨g, 0, none⟩ m c .i64 _ (by rw [e2]; exact Tryd.underlying22), if_pos (by omega), e2, e3]
  simp only [Result.andThen]
  rw [Lib.add_plain]
  congr 4
  omega

theorem wrap_last (m : Nat) (hm : 1 ≤ m) (hl : m ≤ 1048576) : IntKind.i64.wrap ((m : Int) - 1) = (m : Int) - 1 := IntWalk.i64_in _ ⟨by omega, by omega⟩

theorem ba_ext {a b : ByteArray} (h : a.data.toList = b.data.toList) : a = b := by
  cases a; cases b
  simpa using h

theorem slotKey_data (key : ByteArray) (x : Int) : (slotKey key x).data.toList = key.data.toList ++ (35 :: Lib.itoa x) := by
  simp [slotKey]

theorem slotKey_inj {key : ByteArray} {x y : Int} (h : (slotKey key x).toList = (slotKey key y).toList) : x = y := by
  rw [Lib.toList_data, Lib.toList_data, slotKey_data, slotKey_data] at h
  have := List.append_cancel_left h
  simp only [List.cons.injEq, true_and] at this
  exact itoa_inj this

theorem slotKey_eq (key : ByteArray) (x y : Int) : ((slotKey key x).toList == (slotKey key y).toList) = (x == y) := by
  by_cases h : x = y
  · subst h; simp
  · have h1 : ¬ (slotKey key x).toList = (slotKey key y).toList := fun e => h (slotKey_inj e)
    rw [beq_eq_false_iff_ne.2 h, beq_eq_false_iff_ne.2 h1]

end Go.Proofs.Qxb6632449aDoor
