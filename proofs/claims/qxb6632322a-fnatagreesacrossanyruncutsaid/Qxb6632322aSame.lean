import Derived.Test.Qxb6632322aSets
namespace Go.Proofs.Qxb6632322a
open Go.RowKit

theorem wordCount_any (a : Option Addr) (n c : Nat) (w : World) : Calls Try.prog 17 #[.agg #[.slice a n c]] w fun e w' => e = .returned (.int .i64 n) ∧ Bel w.heap.size w w' := by
  go_enter Try.func17, Try.ntmps17
  go_wp2
  go_ret
  exact ⟨rfl, (Bel.refl _ _).alloc (Nat.le_refl _) _⟩

theorem wordAt_any (g : Nat) (b : Int) (w : World) (h : Blk w g #[.int .i64 0, .int .u64 b] 58) : Calls Try.prog 18 #[.agg #[.slice (some ⟨g, 0, none⟩) 1 1], .int .i64 0] w fun e w' => e = .returned (.int .i64 0) ∧ Bel w.heap.size w w' := by
  have hn := h.alloc (.cells #[.slice (some ⟨g, 0, none⟩) 1 1] 32)
  have hc := hn.cell 0
  simp only [List.getElem?_toArray, List.getElem?_cons_zero] at hc
  clear hn h
  go_enter Try.func18, Try.ntmps18
  go_wp2
  go_ret
  exact ⟨rfl, (Bel.refl _ _).alloc (Nat.le_refl _) _⟩

theorem wordBits_any (g : Nat) (b : Int) (w : World) (h : Blk w g #[.int .i64 0, .int .u64 b] 58) : Calls Try.prog 19 #[.agg #[.slice (some ⟨g, 0, none⟩) 1 1], .int .i64 0] w fun e w' => e = .returned (.int .u64 b) ∧ Bel w.heap.size w w' := by
  have hn := h.alloc (.cells #[.slice (some ⟨g, 0, none⟩) 1 1] 32)
  have hc := hn.cell 1
  simp only [List.getElem?_toArray, List.getElem?_cons_zero, List.getElem?_cons_succ] at hc
  clear hn h
  go_enter Try.func19, Try.ntmps19
  go_wp2
  go_ret
  exact ⟨rfl, (Bel.refl _ _).alloc (Nat.le_refl _) _⟩

/-- The value of a Set in a block of one cell, behind a callee: its load. -/
theorem blk1 {w : World} {g : Nat} {v : Value} {e : TypeId} (h : Blk w g #[v] e) : w.cell? ⟨g, 0, none⟩ = some v := by
  have := h.cell 0
  simpa using this

set_option maxHeartbeats 400000 in
theorem setIs_any (v : Value) (b : Int) (w : World) (h : SetOK w v b) : Calls Try.prog 10 #[.agg #[v], .int .u64 b] w fun e w' => e = .returned (.bool true) ∧ Bel w.heap.size w w' := by
  rcases h with ⟨rfl, rfl⟩ | ⟨h0, g, rfl, hg⟩
  · go_enter Try.func10, Try.ntmps10
    go_wp2_with fail
    refine (wordCount_any _ _ _ _).mono ?_
    rintro e w1 ⟨rfl, hb1⟩
    have HB := hide (bel_alloc hb1)
    clear hb1
    go_wp2
    go_ret
    exact ⟨rfl, unhide HB⟩
  · have hb0 : (b == 0) = false := by simpa using h0
    have hbb : (b == b) = true := by simp
    go_enter Try.func10, Try.ntmps10
    go_wp2_with fail
    refine (wordCount_any _ _ _ _).mono ?_
    rintro e w1 ⟨rfl, hb1⟩
    have hg1 := hg.bel (bel_alloc hb1) hg.lt
    have hn1 := bel_new hb1
    have hc1 := blk1 hn1
    have HB1 := hide (bel_alloc hb1)
    have HN1 := hide hn1
    have HG1 := hide hg1
    clear hb1 hg1 hn1 hg
    go_wp2_with fail
    refine (wordAt_any g b _ (unhide HG1)).mono ?_
    rintro e w2 ⟨rfl, hb2⟩
    have hc2 := blk1 ((unhide HN1).bel hb2 (unhide HN1).lt)
    have HG2 := hide ((unhide HG1).bel hb2 (unhide HG1).lt)
    have HB2 := hide ((unhide HB1).then hb2)
    clear hb2 hc1
    go_wp2_with fail
    refine (wordBits_any g b _ (unhide HG2)).mono ?_
    rintro e w3 ⟨rfl, hb3⟩
    have HB3 := hide ((unhide HB2).then hb3)
    clear hb3
    go_wp2
    go_ret
    exact ⟨rfl, unhide HB3⟩

end Go.Proofs.Qxb6632322a
