import Derived.Test.Qxb6632322aAt
namespace Go.Proofs.Qxb6632322a
open Go.RowKit
set_option linter.unusedVariables false

/-- What a cell holds, whatever it is. -/
def cv (w : World) (b i : Nat) : Value := (w.cell? ⟨b, i, none⟩).getD undef
theorem cv_some {w : World} {b i : Nat} (h : (w.cell? ⟨b, i, none⟩).isSome = true) : w.cell? ⟨b, i, none⟩ = some (cv w b i) := by
  unfold cv
  cases hc : w.cell? ⟨b, i, none⟩
  · rw [hc] at h; cases h
  · rfl

/-- Inside (*run).device: the run's memory, the run's cells, the result's block. -/
structure DI (w0 : World) (ids : Nat → ByteArray) (nd : Nat → Int) (k n : Nat) (c : Nat → Value) (S : ByteArray) (E O : Nat → Nat) (aE aS aO : Array Value) (ge ce gs ns cs go co : Nat) (g o : Nat) (cur : Array Value) (w : World) : Prop where
  mem : RunMem w ids nd k n c S E O aE aS aO ge ce gs ns cs go co
  run : Blk w g cur 46
  res : ∃ r, Blk w w0.heap.size r 34 ∧ r.size = 3
  bel : Bel w0.heap.size w0 w

variable {w0 : World} {ids : Nat → ByteArray} {nd : Nat → Int} {k n : Nat} {c : Nat → Value} {S : ByteArray} {E O : Nat → Nat} {aE aS aO : Array Value} {ge ce gs ns cs go co : Nat} {g o : Nat} {cur : Array Value} {w w' : World}

theorem DI.drew (h : DI w0 ids nd k n c S E O aE aS aO ge ce gs ns cs go co g o cur w) : DI w0 ids nd k n c S E O aE aS aO ge ce gs ns cs go co g o cur w.drew :=
  ⟨h.mem.keep fun _ _ _ _ hb => hb, h.run, h.res, h.bel.drew⟩
theorem DI.step (hb : Bel w.heap.size w w') (h : DI w0 ids nd k n c S E O aE aS aO ge ce gs ns cs go co g o cur w) : DI w0 ids nd k n c S E O aE aS aO ge ce gs ns cs go co g o cur w' := by
  obtain ⟨r, hr, hs⟩ := h.res
  exact ⟨h.mem.keep (keep_of_bel hb), h.run.bel hb h.run.lt, ⟨r, hr.bel hb hr.lt, hs⟩, h.bel.then hb⟩
theorem Blk.ne {w : World} {g g' : Nat} {cs cs' : Array Value} {e e' : TypeId} (h : Blk w g cs e) (h' : Blk w g' cs' e') (hne : e ≠ e') : g ≠ g' := by
  intro hg; subst hg; rw [Blk, h] at h'; simp at h'; exact hne h'.2
theorem DI.set (h : DI w0 ids nd k n c S E O aE aS aO ge ce gs ns cs go co g o cur w) (i : Nat) (u : Value) : DI w0 ids nd k n c S E O aE aS aO ge ce gs ns cs go co g o cur (w.setCell ⟨w0.heap.size, i, none⟩ u) := by
  obtain ⟨r, hr, hs⟩ := h.res
  exact ⟨h.mem.keep fun g cs e he hb => hb.setOther (hb.ne hr (by rcases he with rfl | rfl | rfl | rfl <;> decide)) _, h.run.setOther (h.run.ne hr (by decide)) _, ⟨_, hr.setSame i u, by simpa using hs⟩, h.bel.setCell (Nat.le_refl _) _⟩

/-- All that the walk of the region wants, in its own words. -/
theorem DI.all (h : DI w0 ids nd k n c S E O aE aS aO ge ce gs ns cs go co g o cur w) {j : Nat} (hj : j < n) (hcur : ∀ f, f < 6 → cur[o + f]? = some (c f)) {sv : Value} (hsv : aS[O j]? = some sv) {r : ByteArray} (hc1 : c 1 = .string r) :
    w.cell? ⟨g, o + 1, none⟩ = some (.string r) ∧ w.cell? ⟨g, o + 4, none⟩ = some (.slice (some ⟨gs, 0, none⟩) ns cs) ∧ w.cell? ⟨g, o + 5, none⟩ = some (.slice (some ⟨go, 0, none⟩) n co) ∧
    w.cell? ⟨go, j, none⟩ = some (.int .i32 (O j)) ∧ w.cell? ⟨gs, O j, none⟩ = some sv ∧
    w.cell? ⟨w0.heap.size, 0, none⟩ = some (cv w w0.heap.size 0) ∧ w.cell? ⟨w0.heap.size, 1, none⟩ = some (cv w w0.heap.size 1) ∧ w.cell? ⟨w0.heap.size, 2, none⟩ = some (cv w w0.heap.size 2) ∧
    w.frozen? ⟨w0.heap.size, 0, none⟩ = false ∧ w.frozen? ⟨w0.heap.size, 1, none⟩ = false ∧ w.frozen? ⟨w0.heap.size, 2, none⟩ = false ∧
    DI w0 ids nd k n c S E O aE aS aO ge ce gs ns cs go co g o cur w := by
  obtain ⟨rr, hr, hs⟩ := h.res
  have d := h.mem.dev j hj
  have hx : ∀ i, i < 3 → w.cell? ⟨w0.heap.size, i, none⟩ = some (cv w w0.heap.size i) := fun i hi => cv_some (by rw [hr.cell i, Array.getElem?_eq_getElem (by omega)]; rfl)
  refine ⟨(h.run.cell _).trans ((hcur 1 (by omega)).trans (by rw [hc1])), ?_, ?_, (h.mem.bO.cell _).trans d.o, (h.mem.bS.cell _).trans hsv, hx 0 (by omega), hx 1 (by omega), hx 2 (by omega), hr.frozen 0, hr.frozen 1, hr.frozen 2, h⟩
  · rw [h.run.cell, hcur 4 (by omega), h.mem.c4]
  · rw [h.run.cell, hcur 5 (by omega), h.mem.c5]

theorem SetOK.form {w : World} {v : Value} {b : Int} (h : SetOK w v b) : ∃ a m, v = .slice a m m := by
  rcases h with ⟨_, rfl⟩ | ⟨_, g, rfl, _⟩
  · exact ⟨_, _, rfl⟩
  · exact ⟨_, _, rfl⟩

/-- What (*run).device leaves. -/
def DevOut (w0 : World) (r : ByteArray) (i : ByteArray) (b : Int) (e : Ending) (w' : World) : Prop :=
  ∃ sv, e = .returned (.agg #[.string r, .string i, sv]) ∧ SetOK w' sv b ∧ Bel w0.heap.size w0 w'

theorem three_cells {w : World} {B : Nat} {rr : Array Value} (hr : Blk w B rr 34) (hs : rr.size = 3) (a b c : Value) :
    (((w.setCell ⟨B, 0, none⟩ a).setCell ⟨B, 1, none⟩ b).setCell ⟨B, 2, none⟩ c).cell? ⟨B, 0, none⟩ = some a ∧ (((w.setCell ⟨B, 0, none⟩ a).setCell ⟨B, 1, none⟩ b).setCell ⟨B, 2, none⟩ c).cell? ⟨B, 1, none⟩ = some b ∧ (((w.setCell ⟨B, 0, none⟩ a).setCell ⟨B, 1, none⟩ b).setCell ⟨B, 2, none⟩ c).cell? ⟨B, 2, none⟩ = some c := by
  have h := ((hr.setSame 0 a).setSame 1 b).setSame 2 c
  refine ⟨?_, ?_, ?_⟩ <;> rw [h.cell] <;> simp [hs]

set_option maxRecDepth 100000 in
set_option maxHeartbeats 2000000 in
theorem device_any (g o j : Nat) (r : ByteArray) (h : RunMem w ids nd k n c S E O aE aS aO ge ce gs ns cs go co) (hj : j < n) (hr : Blk w g cur 46) (hcur : ∀ f, f < 6 → cur[o + f]? = some (c f)) (hc1 : c 1 = .string r) :
    Calls Try.prog 16 #[.pointer (some ⟨g, o, none⟩), .int .i64 j] w (DevOut w r (ids (k + j)) (nd (k + j))) := by
  obtain ⟨sv, hsv, hok⟩ := (h.dev j hj).set
  obtain ⟨sa, sm, rfl⟩ := hok.form
  have ho := (h.dev j hj).olt
  have n2 := h.n2
  have n1 := h.n1
  have t1 : (j : Int) < (n : Int) := by omega
  have t2 : (O j : Int) < (ns : Int) := by omega
  have hd : DI w ids nd k n c S E O aE aS aO ge ce gs ns cs go co g o cur (w.alloc (.cells #[.string ⟨#[]⟩, .string ⟨#[]⟩, .slice none 0 0] 34)) :=
    ⟨h.keep fun _ _ _ _ hb => hb.alloc _, hr.alloc _, ⟨_, Blk.new _ _ _, rfl⟩, (Bel.refl _ _).alloc (Nat.le_refl _) _⟩
  have HD := hide hd
  have HC := hide hcur
  have HSV := hide hsv
  have HJ := hide hj
  have HOK := hide hok
  have HC1 := hide hc1
  clear hd hcur hsv hj hok h hr hc1
  have t3 : (0 : Int) ≤ (O j : Int) := by omega
  go_enter Try.func16, Try.ntmps16
  go_wp2_with fail
  go_region_held3 (fun w' => w'.cell? ⟨g, o + 1, none⟩ = some (.string r) ∧ w'.cell? ⟨g, o + 4, none⟩ = some (.slice (some ⟨gs, 0, none⟩) ns cs) ∧ w'.cell? ⟨g, o + 5, none⟩ = some (.slice (some ⟨go, 0, none⟩) n co) ∧
      w'.cell? ⟨go, j, none⟩ = some (.int .i32 (O j)) ∧ w'.cell? ⟨gs, O j, none⟩ = some (.slice sa sm sm) ∧
      w'.cell? ⟨w.heap.size, 0, none⟩ = some (cv w' w.heap.size 0) ∧ w'.cell? ⟨w.heap.size, 1, none⟩ = some (cv w' w.heap.size 1) ∧ w'.cell? ⟨w.heap.size, 2, none⟩ = some (cv w' w.heap.size 2) ∧
      w'.frozen? ⟨w.heap.size, 0, none⟩ = false ∧ w'.frozen? ⟨w.heap.size, 1, none⟩ = false ∧ w'.frozen? ⟨w.heap.size, 2, none⟩ = false ∧
      DI w ids nd k n c S E O aE aS aO ge ce gs ns cs go co g o cur w')
    (first | exact (unhide HD).drew.all (unhide HJ) (unhide HC) (unhide HSV) (unhide HC1) | (go_split_ands; exact (DI.step (by assumption) (by assumption)).all (unhide HJ) (unhide HC) (unhide HSV) (unhide HC1)) | (go_split_ands; exact (DI.set (DI.set (DI.set (by assumption) _ _) _ _) _ _).all (unhide HJ) (unhide HC) (unhide HSV) (unhide HC1)))
    (first | (go_at_call 22; go_split_ands; refine (id_any (w := _) g o j (DI.mem (by assumption)) (unhide HJ) ?_ ?_).mono ?_; (rw [Blk.cell (DI.run (by assumption))]; exact unhide HC 2 (by omega)); (rw [Blk.cell (DI.run (by assumption))]; exact unhide HC 3 (by omega)); rintro e w' ⟨rfl, hbx⟩))
  go_split_ands
  have hd : DI w ids nd k n c S E O aE aS aO ge ce gs ns cs go co g o cur w' := DI.step hbx (by assumption)
  have hfin := (((hd.set 0 (.string r)).set 1 (.string (ids (k + j)))).set 2 (.slice sa sm sm)).bel
  have hset : SetOK (((w'.setCell ⟨w.heap.size, 0, none⟩ (.string r)).setCell ⟨w.heap.size, 1, none⟩ (.string (ids (k + j)))).setCell ⟨w.heap.size, 2, none⟩ (.slice sa sm sm)) (.slice sa sm sm) (nd (k + j)) :=
    (unhide HOK).bel hfin
  obtain ⟨rr, hrr, hsz⟩ := hd.res
  have c3 := three_cells hrr hsz (.string r) (.string (ids (k + j))) (.slice sa sm sm)
  obtain ⟨c30, c31, c32⟩ := c3
  clear hd hrr hsz
  have HF := hide hfin
  have HS := hide hset
  clear hfin hset
  go_wp2_with fail
  exact bodyPost_ret (v := .agg #[.string r, .string (ids (k + j)), .slice sa sm sm]) (by simp [results, Try.results16, go_sem, c30, c31, c32]) rfl ⟨_, rfl, unhide HS, unhide HF⟩
end Go.Proofs.Qxb6632322a
