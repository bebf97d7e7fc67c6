import Derived.Test.Qxb6632356aWalks
import Derived.Deep.DeepCutAuto
import Derived.Deep.RegionWith
namespace Go.Proofs.Qxb6632356a
open Go.RowKit
set_option linter.unusedVariables false

theorem run_store_float {P : Program} {w : World} {a : Addr} {m : Mode} (k : FloatKind) (x : Nat) : (store a (.float k x) m).run P w = stored P w a (.float k x) m := run_store P w a _ m rfl
attribute [local go_sem] run_store_float

/-- What take leaves: its two results, and the bucket. -/
def TakeOut (w0 : World) (gb : Nat) (ok : Bool) (left tok : Nat) (sec nsec : Int) (e : Ending) (w' : World) : Prop :=
  e = .returned (.tuple #[.bool ok, .float .f64 left]) ∧ Blk w' gb #[.float .f64 tok, .int .i64 sec, .int .i64 nsec] 33 ∧ Bel gb w0 w'

/-- Inside take: the bucket, the boxes of the limit and of the instant, the variable 'last'. -/
structure RI (w0 : World) (gb x0 r : Nat) (ls ln bu s2 n2 ps pn : Int) (w : World) : Prop where
  b : Blk w gb #[.float .f64 x0, .int .i64 ls, .int .i64 ln] 33
  b5 : Blk w w0.heap.size #[.float .f64 r, .int .i64 bu] 37
  b7 : Blk w (w0.heap.size + 1) #[.int .i64 s2, .int .i64 n2] 31
  b11 : Blk w (w0.heap.size + 1 + 1) #[.int .i64 ps, .int .i64 pn] 31
  bel : Bel w0.heap.size w0 w
  lt : gb < w0.heap.size

variable {w0 w w' : World} {gb x0 r : Nat} {ls ln bu s2 n2 ps pn : Int}

theorem RI.step (hb : Bel w.heap.size w w') (h : RI w0 gb x0 r ls ln bu s2 n2 ps pn w) : RI w0 gb x0 r ls ln bu s2 n2 ps pn w' :=
  ⟨h.b.bel hb h.b.lt, h.b5.bel hb h.b5.lt, h.b7.bel hb h.b7.lt, h.b11.bel hb h.b11.lt, h.bel.then hb, h.lt⟩

theorem Blk.two {w : World} {g : Nat} {x y : Value} {e : TypeId} (h : Blk w g #[x, y] e) : w.cell? ⟨g, 0, none⟩ = some x ∧ w.cell? ⟨g, 1, none⟩ = some y := by
  have c0 := h.cell 0
  have c1 := h.cell 1
  simp only [List.getElem?_toArray, List.getElem?_cons_zero, List.getElem?_cons_succ] at c0 c1
  exact ⟨c0, c1⟩
theorem Blk.three {w : World} {g : Nat} {x y z : Value} {e : TypeId} (h : Blk w g #[x, y, z] e) : w.cell? ⟨g, 0, none⟩ = some x ∧ w.cell? ⟨g, 1, none⟩ = some y ∧ w.cell? ⟨g, 2, none⟩ = some z := by
  have c0 := h.cell 0
  have c1 := h.cell 1
  have c2 := h.cell 2
  simp only [List.getElem?_toArray, List.getElem?_cons_zero, List.getElem?_cons_succ] at c0 c1 c2
  exact ⟨c0, c1, c2⟩

theorem Blk.put3 {w : World} {g : Nat} {x y z : Value} {e : TypeId} (h : Blk w g #[x, y, z] e) (a b c : Value) : Blk (((w.setCell ⟨g, 0, none⟩ a).setCell ⟨g, 1, none⟩ b).setCell ⟨g, 2, none⟩ c) g #[a, b, c] e := by
  have := ((h.setSame 0 a).setSame 1 b).setSame 2 c
  simpa using this

theorem RI.first {w w1 : World} {gb x0 r : Nat} {ls ln bu s2 n2 : Int} (hb : Blk w gb #[.float .f64 x0, .int .i64 ls, .int .i64 ln] 33)
    (hb1 : Bel ((((w.alloc (.cells #[.float .f64 r, .int .i64 bu] 37)).alloc (.cells #[.int .i64 s2, .int .i64 n2] 31)).alloc (.cells #[.int .i64 ls, .int .i64 ln] 31)).drew).heap.size ((((w.alloc (.cells #[.float .f64 r, .int .i64 bu] 37)).alloc (.cells #[.int .i64 s2, .int .i64 n2] 31)).alloc (.cells #[.int .i64 ls, .int .i64 ln] 31)).drew) w1) :
    RI w gb x0 r ls ln bu s2 n2 ls ln w1 := by
  refine RI.step hb1 ⟨?_, ?_, ?_, ?_, ?_, hb.lt⟩
  · exact ((hb.alloc _).alloc _).alloc _
  · exact ((Blk.new w _ _).alloc _).alloc _
  · have := (Blk.new (w.alloc (.cells #[.float .f64 r, .int .i64 bu] 37)) #[.int .i64 s2, .int .i64 n2] 31).alloc (.cells #[.int .i64 ls, .int .i64 ln] 31)
    rw [World.size_alloc] at this
    exact this
  · have := Blk.new ((w.alloc (.cells #[.float .f64 r, .int .i64 bu] 37)).alloc (.cells #[.int .i64 s2, .int .i64 n2] 31)) #[.int .i64 ls, .int .i64 ln] 31
    rw [World.size_alloc, World.size_alloc] at this
    exact this
  · exact ((((Bel.refl _ _).alloc (Nat.le_refl _) _).alloc (by simp) _).alloc (by simp; omega) _).drew

/-- The cells that the refill's statement reads. -/
theorem RI.cells (h : RI w0 gb x0 r ls ln bu s2 n2 ps pn w) : w.cell? ⟨w0.heap.size, 0, none⟩ = some (.float .f64 r) ∧ w.cell? ⟨w0.heap.size, 1, none⟩ = some (.int .i64 bu) ∧ w.cell? ⟨w0.heap.size + 1, 0, none⟩ = some (.int .i64 s2) ∧ w.cell? ⟨w0.heap.size + 1, 1, none⟩ = some (.int .i64 n2) ∧
    w.cell? ⟨w0.heap.size + 1 + 1, 0, none⟩ = some (.int .i64 ps) ∧ w.cell? ⟨w0.heap.size + 1 + 1, 1, none⟩ = some (.int .i64 pn) ∧ w.frozen? ⟨w0.heap.size + 1 + 1, 0, none⟩ = false ∧ w.frozen? ⟨w0.heap.size + 1 + 1, 1, none⟩ = false :=
  ⟨h.b5.two.1, h.b5.two.2, h.b7.two.1, h.b7.two.2, h.b11.two.1, h.b11.two.2, h.b11.frozen 0, h.b11.frozen 1⟩

/-- Behind the store into 'last'. -/
theorem RI.put (h : RI w0 gb x0 r ls ln bu s2 n2 ps pn w) (a b : Int) : RI w0 gb x0 r ls ln bu s2 n2 a b ((w.setCell ⟨w0.heap.size + 1 + 1, 0, none⟩ (.int .i64 a)).setCell ⟨w0.heap.size + 1 + 1, 1, none⟩ (.int .i64 b)) := by
  have hl := h.lt
  refine ⟨(h.b.setOther (p := ⟨w0.heap.size + 1 + 1, 0, none⟩) (by show gb ≠ w0.heap.size + 1 + 1; omega) _).setOther (p := ⟨w0.heap.size + 1 + 1, 1, none⟩) (by show gb ≠ w0.heap.size + 1 + 1; omega) _,
    (h.b5.setOther (p := ⟨w0.heap.size + 1 + 1, 0, none⟩) (by show w0.heap.size ≠ w0.heap.size + 1 + 1; omega) _).setOther (p := ⟨w0.heap.size + 1 + 1, 1, none⟩) (by show w0.heap.size ≠ w0.heap.size + 1 + 1; omega) _,
    (h.b7.setOther (p := ⟨w0.heap.size + 1 + 1, 0, none⟩) (by show w0.heap.size + 1 ≠ w0.heap.size + 1 + 1; omega) _).setOther (p := ⟨w0.heap.size + 1 + 1, 1, none⟩) (by show w0.heap.size + 1 ≠ w0.heap.size + 1 + 1; omega) _, ?_,
    (h.bel.setCell (p := ⟨w0.heap.size + 1 + 1, 0, none⟩) (by show w0.heap.size ≤ w0.heap.size + 1 + 1; omega) _).setCell (p := ⟨w0.heap.size + 1 + 1, 1, none⟩) (by show w0.heap.size ≤ w0.heap.size + 1 + 1; omega) _, hl⟩
  have := (h.b11.setSame 0 (.int .i64 a)).setSame 1 (.int .i64 b)
  simpa using this

set_option maxRecDepth 100000 in
set_option maxHeartbeats 2000000 in
theorem take_same_no (gb x0 r : Nat) (ls ln bu n s2 n2 : Int) (w : World) (hb : Blk w gb #[.float .f64 x0, .int .i64 ls, .int .i64 ln] 33) (ha : aft s2 n2 ls ln = false)
    (hlt : (FloatKind.f64.format.order x0 (floatOfInt .f64 n) == some .lt) = true) :
    Calls Try.prog 7 #[.pointer (some ⟨gb, 0, none⟩), .agg #[.float .f64 r, .int .i64 bu], .int .i64 n, .agg #[.int .i64 s2, .int .i64 n2]] w (TakeOut w gb false x0 x0 ls ln) := by
  obtain ⟨k0, k1, k2⟩ := hb.three
  have hgl := hb.lt
  have y0 : ∀ o1 o2 o3, (((w.alloc o1).alloc o2).alloc o3).cell? ⟨gb, 0, none⟩ = some (.float .f64 x0) := fun o1 o2 o3 => (((hb.alloc o1).alloc o2).alloc o3).three.1
  have y1 : ∀ o1 o2 o3, (((w.alloc o1).alloc o2).alloc o3).cell? ⟨gb, 1, none⟩ = some (.int .i64 ls) := fun o1 o2 o3 => (((hb.alloc o1).alloc o2).alloc o3).three.2.1
  have y2 : ∀ o1 o2 o3, (((w.alloc o1).alloc o2).alloc o3).cell? ⟨gb, 2, none⟩ = some (.int .i64 ln) := fun o1 o2 o3 => (((hb.alloc o1).alloc o2).alloc o3).three.2.2
  have HB := hide hb
  clear hb
  go_enter Try.func7, Try.ntmps7
  go_wp2_with fail
  go_region
  go_wp2_with fail
  refine (after_any s2 n2 ls ln _).mono ?_
  rintro e w1 ⟨rfl, hb1⟩
  have hbl : Bel w.heap.size w w1 := ((((Bel.refl _ _).alloc (Nat.le_refl _) _).alloc (by simp) _).alloc (by simp; omega) _).drew.trans ((Bel.of hb1).mono (by simp; omega))
  have HBL := hide hbl
  clear hbl hb1 y0 y1 y2 k0 k1 k2
  go_wp2
  go_ret2
  exact ⟨rfl, (unhide HB).bel (unhide HBL) hgl, (unhide HBL).mono (by omega)⟩

set_option maxRecDepth 100000 in
set_option maxHeartbeats 2000000 in
theorem take_same_yes (gb x0 r z : Nat) (ls ln bu n s2 n2 : Int) (w : World) (hb : Blk w gb #[.float .f64 x0, .int .i64 ls, .int .i64 ln] 33) (ha : aft s2 n2 ls ln = false)
    (hlt : (FloatKind.f64.format.order x0 (floatOfInt .f64 n) == some .lt) = false) (hsub : Ieee.double.sub x0 (floatOfInt .f64 n) = some z) :
    Calls Try.prog 7 #[.pointer (some ⟨gb, 0, none⟩), .agg #[.float .f64 r, .int .i64 bu], .int .i64 n, .agg #[.int .i64 s2, .int .i64 n2]] w (TakeOut w gb true z z ls ln) := by
  obtain ⟨k0, k1, k2⟩ := hb.three
  have hgl := hb.lt
  have y0 : ∀ o1 o2 o3, (((w.alloc o1).alloc o2).alloc o3).cell? ⟨gb, 0, none⟩ = some (.float .f64 x0) := fun o1 o2 o3 => (((hb.alloc o1).alloc o2).alloc o3).three.1
  have y1 : ∀ o1 o2 o3, (((w.alloc o1).alloc o2).alloc o3).cell? ⟨gb, 1, none⟩ = some (.int .i64 ls) := fun o1 o2 o3 => (((hb.alloc o1).alloc o2).alloc o3).three.2.1
  have y2 : ∀ o1 o2 o3, (((w.alloc o1).alloc o2).alloc o3).cell? ⟨gb, 2, none⟩ = some (.int .i64 ln) := fun o1 o2 o3 => (((hb.alloc o1).alloc o2).alloc o3).three.2.2
  have rs := run_sub hsub
  have HB := hide hb
  clear hb hsub
  go_enter Try.func7, Try.ntmps7
  go_wp2_with fail
  go_region
  go_wp2_with fail
  refine (after_any s2 n2 ls ln _).mono ?_
  rintro e w1 ⟨rfl, hb1⟩
  have hri := RI.first (r := r) (bu := bu) (s2 := s2) (n2 := n2) (unhide HB) (Bel.of hb1)
  obtain ⟨i0, i1, i2⟩ := hri.b.three
  obtain ⟨j0, j1⟩ := hri.b11.two
  have fz0 := hri.b.frozen 0
  have fz1 := hri.b.frozen 1
  have fz2 := hri.b.frozen 2
  have hne1 : gb ≠ w.heap.size + 1 + 1 := by omega
  have hne2 : w.heap.size + 1 + 1 ≠ gb := by omega
  have hput := hri.b.put3 (.float .f64 z) (.int .i64 ls) (.int .i64 ln)
  have hbel : Bel gb w (((w1.setCell ⟨gb, 0, none⟩ (.float .f64 z)).setCell ⟨gb, 1, none⟩ (.int .i64 ls)).setCell ⟨gb, 2, none⟩ (.int .i64 ln))   := by
    have h0 : Bel gb w w1 := hri.bel.mono (by omega)
    exact ((h0.setCell (p := ⟨gb, 0, none⟩) (Nat.le_refl _) _).setCell (p := ⟨gb, 1, none⟩) (Nat.le_refl _) _).setCell (p := ⟨gb, 2, none⟩) (Nat.le_refl _) _
  obtain ⟨q0, q1, q2⟩ := hput.three
  have HPUT := hide hput
  have HBEL := hide hbel
  clear hri hb1 y0 y1 y2 k0 k1 k2 hput hbel
  go_wp2_with fail
  go_region
  go_wp2_with fail
  go_quiet (fail)
  go_wp2
  go_ret2
  exact ⟨rfl, unhide HPUT, (unhide HBEL).drew.drewN _⟩

end Go.Proofs.Qxb6632356a
