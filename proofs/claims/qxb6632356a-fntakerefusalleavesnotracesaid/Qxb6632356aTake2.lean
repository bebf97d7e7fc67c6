import Derived.Test.Qxb6632356aTake
import Derived.Deep.DrawnRows
namespace Go.Proofs.Qxb6632356a
open Go.RowKit
set_option linter.unusedVariables false
attribute [local go_sem ↓] Go.wp_at_zero Go.wp_at_succ

set_option maxRecDepth 100000 in
set_option maxHeartbeats 4000000 in
theorem take_after_no (gb x0 r t sc : Nat) (ls ln bu n s2 n2 : Int) (w : World) (hb : Blk w gb #[.float .f64 x0, .int .i64 ls, .int .i64 ln] 33) (ha : aft s2 n2 ls ln = true)
    (hsc : ∀ w, Calls Try.prog 10 #[.agg #[.int .i64 s2, .int .i64 n2], .agg #[.int .i64 ls, .int .i64 ln]] w fun e w' => e = .returned (.float .f64 sc) ∧ Below w.heap.size w w')
    (hrf : ∀ w, Calls Try.prog 9 #[.agg #[.float .f64 r, .int .i64 bu], .float .f64 x0, .float .f64 sc] w fun e w' => e = .returned (.float .f64 t) ∧ Below w.heap.size w w')
    (hlt : (FloatKind.f64.format.order t (floatOfInt .f64 n) == some .lt) = true) :
    Calls Try.prog 7 #[.pointer (some ⟨gb, 0, none⟩), .agg #[.float .f64 r, .int .i64 bu], .int .i64 n, .agg #[.int .i64 s2, .int .i64 n2]] w (TakeOut w gb false t x0 ls ln) := by
  obtain ⟨k0, k1, k2⟩ := hb.three
  have hgl := hb.lt
  have y0 : ∀ o1 o2 o3, (((w.alloc o1).alloc o2).alloc o3).cell? ⟨gb, 0, none⟩ = some (.float .f64 x0) := fun o1 o2 o3 => (((hb.alloc o1).alloc o2).alloc o3).three.1
  have y1 : ∀ o1 o2 o3, (((w.alloc o1).alloc o2).alloc o3).cell? ⟨gb, 1, none⟩ = some (.int .i64 ls) := fun o1 o2 o3 => (((hb.alloc o1).alloc o2).alloc o3).three.2.1
  have y2 : ∀ o1 o2 o3, (((w.alloc o1).alloc o2).alloc o3).cell? ⟨gb, 2, none⟩ = some (.int .i64 ln) := fun o1 o2 o3 => (((hb.alloc o1).alloc o2).alloc o3).three.2.2
  have HB := hide hb
  have HSC := hide hsc
  have HRF := hide hrf
  clear hb hsc hrf
  go_enter Try.func7, Try.ntmps7
  go_wp2_with fail
  go_region
  go_wp2_with fail
  refine (after_any s2 n2 ls ln _).mono ?_
  rintro e w1 ⟨rfl, hb1⟩
  have hri := RI.first (r := r) (bu := bu) (s2 := s2) (n2 := n2) (unhide HB) (Bel.of hb1)
  obtain ⟨d0, d1, d2, d3, d4, d5, d6, d7⟩ := hri.cells
  have HRI := hide hri
  clear hri hb1 y0 y1 y2 k0 k1 k2
  go_upto_region 3 with fail
  go_cut [10] (fun x wx => x = .float .f64 t ∧ RI w gb x0 r ls ln bu s2 n2 s2 n2 wx)
  case first =>
    have hri := unhide HRI
    go_region_with (first
      | (go_at_call 10; refine (unhide HSC _).mono ?_; rintro e wk ⟨rfl, hbk⟩; have hrk := RI.step (Bel.of hbk) (by first | exact hri | exact hri.step ((Bel.refl _ _).drew)); obtain ⟨m0, m1, m2, m3, m4, m5, m6, m7⟩ := hrk.cells)
      | (go_at_call 9; refine (unhide HRF _).mono ?_; rintro e wj ⟨rfl, hbj⟩; have hrj := RI.step (Bel.of hbj) hrk; obtain ⟨v0, v1, v2, v3, v4, v5, v6, v7⟩ := hrj.cells))
    all_goals go_wp2
    all_goals go_meet
    all_goals (case rel => exact ⟨rfl, hrj.put s2 n2⟩)
  case rest =>
    obtain ⟨rfl, hri⟩ := hcut
    have HR2 := hide hri
    clear hri
    go_wp2
    go_ret2
    exact ⟨rfl, (unhide HR2).b, (unhide HR2).bel.mono (by omega)⟩

end Go.Proofs.Qxb6632356a
