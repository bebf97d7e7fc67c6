import Derived.Test.Qxb6632356aTake3
import Derived.Test.Qxb6632356aTake2
import Derived.Test.Qxb6632356aRefill
namespace Go.Proofs.Qxb6632356a
open Go.RowKit Fl
set_option linter.unusedVariables false

def ZOut (w : World) (ok : Bool) (left tok : Nat) (se ns : Int) (e : Ending) (w' : World) : Prop :=
  e = .returned (.tuple #[.bool ok, .float .f64 left, .float .f64 tok, .int .i64 se, .int .i64 ns]) ∧ Bel w.heap.size w w'

theorem take_no (gb x0 r t : Nat) (ls ln bu n s2 n2 ps pn : Int) (w : World) (hb : Blk w gb #[.float .f64 x0, .int .i64 ls, .int .i64 ln] 33) (h : Rf r x0 bu ls ln s2 n2 t ps pn)
    (hlt : (FloatKind.f64.format.order t (floatOfInt .f64 n) == some .lt) = true) :
    Calls Try.prog 7 #[.pointer (some ⟨gb, 0, none⟩), .agg #[.float .f64 r, .int .i64 bu], .int .i64 n, .agg #[.int .i64 s2, .int .i64 n2]] w (TakeOut w gb false t x0 ls ln) := by
  rcases h with ⟨ha, rfl, rfl, rfl⟩ | ⟨ha, rfl, rfl, sc, h1, h2⟩
  · exact take_same_no gb t r ps pn bu n s2 n2 w hb ha hlt
  · exact take_after_no gb x0 r t sc ls ln bu n ps pn w hb ha h1 h2 hlt

theorem take_yes (gb x0 r t z : Nat) (ls ln bu n s2 n2 ps pn : Int) (w : World) (hb : Blk w gb #[.float .f64 x0, .int .i64 ls, .int .i64 ln] 33) (h : Rf r x0 bu ls ln s2 n2 t ps pn)
    (hlt : (FloatKind.f64.format.order t (floatOfInt .f64 n) == some .lt) = false) (hsub : Ieee.double.sub t (floatOfInt .f64 n) = some z) :
    Calls Try.prog 7 #[.pointer (some ⟨gb, 0, none⟩), .agg #[.float .f64 r, .int .i64 bu], .int .i64 n, .agg #[.int .i64 s2, .int .i64 n2]] w (TakeOut w gb true z z ps pn) := by
  rcases h with ⟨ha, rfl, rfl, rfl⟩ | ⟨ha, rfl, rfl, sc, h1, h2⟩
  · exact take_same_yes gb t r z ps pn bu n s2 n2 w hb ha hlt hsub
  · exact take_after_yes gb x0 r t sc z ls ln bu n ps pn w hb ha h1 h2 hlt hsub

theorem zz_walk (x0 r : Nat) (ls ln bu n s2 n2 : Int) (w : World) (ok : Bool) (left tok : Nat) (se ns : Int)
    (h : ∀ gb w, Blk w gb #[.float .f64 x0, .int .i64 ls, .int .i64 ln] 33 → Calls Try.prog 7 #[.pointer (some ⟨gb, 0, none⟩), .agg #[.float .f64 r, .int .i64 bu], .int .i64 n, .agg #[.int .i64 s2, .int .i64 n2]] w (TakeOut w gb ok left tok se ns)) :
    Calls Try.prog 5 #[.float .f64 x0, .int .i64 ls, .int .i64 ln, .float .f64 r, .int .i64 bu, .int .i64 n, .int .i64 s2, .int .i64 n2] w (ZOut w ok left tok se ns) := by
  have H := hide h
  clear h
  go_enter Try.func5, Try.ntmps5
  go_wp2_with fail
  refine (unhide H _ _ (Blk.new w _ _)).mono ?_
  rintro e w1 ⟨rfl, hb, hbel⟩
  obtain ⟨i0, i1, i2⟩ := hb.three
  have HBEL := hide hbel
  clear hb hbel
  go_wp2_with fail
  go_quiet (fail)
  go_wp2
  refine bodyPost_ret (v := .tuple #[.bool ok, .float .f64 left, .float .f64 tok, .int .i64 se, .int .i64 ns]) (by simp [results, Try.results5, go_sem]) rfl ?_
  exact ⟨rfl, (((Bel.refl _ _).alloc (Nat.le_refl _) _).trans (unhide HBEL)).drewN _⟩

theorem zz_no (x0 r t : Nat) (ls ln bu n s2 n2 ps pn : Int) (w : World) (h : Rf r x0 bu ls ln s2 n2 t ps pn) (hlt : (FloatKind.f64.format.order t (floatOfInt .f64 n) == some .lt) = true) :
    Calls Try.prog 5 #[.float .f64 x0, .int .i64 ls, .int .i64 ln, .float .f64 r, .int .i64 bu, .int .i64 n, .int .i64 s2, .int .i64 n2] w (ZOut w false t x0 ls ln) :=
  zz_walk x0 r ls ln bu n s2 n2 w _ _ _ _ _ fun gb w hb => take_no gb x0 r t ls ln bu n s2 n2 ps pn w hb h hlt

theorem zz_yes (x0 r t z : Nat) (ls ln bu n s2 n2 ps pn : Int) (w : World) (h : Rf r x0 bu ls ln s2 n2 t ps pn) (hlt : (FloatKind.f64.format.order t (floatOfInt .f64 n) == some .lt) = false) (hsub : Ieee.double.sub t (floatOfInt .f64 n) = some z) :
    Calls Try.prog 5 #[.float .f64 x0, .int .i64 ls, .int .i64 ln, .float .f64 r, .int .i64 bu, .int .i64 n, .int .i64 s2, .int .i64 n2] w (ZOut w true z z ps pn) :=
  zz_walk x0 r ls ln bu n s2 n2 w _ _ _ _ _ fun gb w hb => take_yes gb x0 r t z ls ln bu n s2 n2 ps pn w hb h hlt hsub

end Go.Proofs.Qxb6632356a
