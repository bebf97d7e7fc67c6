import Derived.Test.Qxb6632322aSame
import Derived.Deep.RegionHeld3
import Derived.Deep.DrawnRows
namespace Go.Proofs.Qxb6632322a
open Go.RowKit

/-- Two boxed sets of one word each, the word b in both. -/
structure SI (w0 : World) (g1 g2 : Nat) (b : Int) (w : World) : Prop where
  b1 : Blk w w0.heap.size #[.slice (some ⟨g1, 0, none⟩) 1 1] 32
  b2 : Blk w (w0.heap.size + 1) #[.slice (some ⟨g2, 0, none⟩) 1 1] 32
  s1 : Blk w g1 #[.int .i64 0, .int .u64 b] 58
  s2 : Blk w g2 #[.int .i64 0, .int .u64 b] 58
  bel : Bel w0.heap.size w0 w

theorem SI.step {w0 : World} {g1 g2 : Nat} {b : Int} {w w' : World} (hb : Bel w.heap.size w w') (h : SI w0 g1 g2 b w) : SI w0 g1 g2 b w' :=
  ⟨h.b1.bel hb h.b1.lt, h.b2.bel hb h.b2.lt, h.s1.bel hb h.s1.lt, h.s2.bel hb h.s2.lt, h.bel.then hb⟩
theorem SI.drew {w0 : World} {g1 g2 : Nat} {b : Int} {w : World} (h : SI w0 g1 g2 b w) : SI w0 g1 g2 b w.drew := ⟨h.b1, h.b2, h.s1, h.s2, h.bel.drew⟩
theorem SI.all {w0 : World} {g1 g2 : Nat} {b : Int} {w : World} (h : SI w0 g1 g2 b w) : w.cell? ⟨w0.heap.size, 0, none⟩ = some (.slice (some ⟨g1, 0, none⟩) 1 1) ∧ w.cell? ⟨w0.heap.size + 1, 0, none⟩ = some (.slice (some ⟨g2, 0, none⟩) 1 1) ∧ SI w0 g1 g2 b w :=
  ⟨blk1 h.b1, blk1 h.b2, h⟩

set_option maxRecDepth 100000 in
set_option maxHeartbeats 1000000 in
theorem sameSet_one (g1 g2 : Nat) (b : Int) (w : World) (h1 : Blk w g1 #[.int .i64 0, .int .u64 b] 58) (h2 : Blk w g2 #[.int .i64 0, .int .u64 b] 58) :
    Calls Try.prog 20 #[.agg #[.slice (some ⟨g1, 0, none⟩) 1 1], .agg #[.slice (some ⟨g2, 0, none⟩) 1 1]] w fun e w' => e = .returned (.bool true) ∧ Bel w.heap.size w w' := by
  have hbb : (b != b) = false := by simp
  have H1 := hide h1
  have H2 := hide h2
  clear h1 h2
  go_enter Try.func20, Try.ntmps20
  go_wp2_with fail
  refine (wordCount_any _ _ _ _).mono ?_
  rintro e w1 ⟨rfl, hb1⟩
  have hs1 : SI w g1 g2 b w1 := by
    refine SI.step hb1 ⟨(Blk.new w _ _).alloc _, ?_, ((unhide H1).alloc _).alloc _, ((unhide H2).alloc _).alloc _, ((Bel.refl _ _).alloc (Nat.le_refl _) _).alloc (by simp) _⟩
    have := Blk.new (w.alloc (.cells #[.slice (some ⟨g1, 0, none⟩) 1 1] 32)) #[.slice (some ⟨g2, 0, none⟩) 1 1] 32
    simpa using this
  clear hb1
  have hc1 := hs1.all.1
  have hc2 := hs1.all.2.1
  go_wp2_with fail
  refine (wordCount_any _ _ _ _).mono ?_
  rintro e w2 ⟨rfl, hb2⟩
  have hs2 := SI.step hb2 hs1
  clear hb2 hs1 hc1 hc2
  go_wp2_with fail
  go_loopw [6] (fun i wr => ∃ k : Nat, k ≤ 1 ∧ i = .int .i64 k ∧ SI w g1 g2 b wr) (fun i _ => 1 - (intOf i).toNat)
  case atStart => exact ⟨0, by omega, rfl, hs2⟩
  case round =>
    clear hs2
    obtain ⟨k, hk, rfl, hs⟩ := hrel
    by_cases hlt : k < 1
    · obtain rfl : k = 0 := by omega
      go_wp2_with fail
      go_region_held3 (fun w' => w'.cell? ⟨w.heap.size, 0, none⟩ = some (.slice (some ⟨g1, 0, none⟩) 1 1) ∧ w'.cell? ⟨w.heap.size + 1, 0, none⟩ = some (.slice (some ⟨g2, 0, none⟩) 1 1) ∧ SI w g1 g2 b w')
        (first | exact (SI.drew (by assumption)).all | (go_split_ands; exact (SI.step (by assumption) (by assumption)).all))
        (first
          | (go_at_call_of 18 (Value.agg #[.slice (some ⟨g1, 0, none⟩) 1 1]); refine (wordAt_any g1 b _ ?_).mono ?_; (go_split_ands; exact SI.s1 (by assumption)); rintro e w' ⟨rfl, hbx⟩)
          | (go_at_call_of 18 (Value.agg #[.slice (some ⟨g2, 0, none⟩) 1 1]); refine (wordAt_any g2 b _ ?_).mono ?_; (go_split_ands; exact SI.s2 (by assumption)); rintro e w' ⟨rfl, hbx⟩))
      go_split_ands
      go_wp2_with fail
      go_region_held3 (fun w' => w'.cell? ⟨w.heap.size, 0, none⟩ = some (.slice (some ⟨g1, 0, none⟩) 1 1) ∧ w'.cell? ⟨w.heap.size + 1, 0, none⟩ = some (.slice (some ⟨g2, 0, none⟩) 1 1) ∧ SI w g1 g2 b w')
        (first | exact (SI.drew (by assumption)).all | (go_split_ands; exact (SI.step (by assumption) (by assumption)).all))
        (first
          | (go_at_call_of 19 (Value.agg #[.slice (some ⟨g1, 0, none⟩) 1 1]); refine (wordBits_any g1 b _ ?_).mono ?_; (go_split_ands; exact SI.s1 (by assumption)); rintro e w' ⟨rfl, hbx⟩)
          | (go_at_call_of 19 (Value.agg #[.slice (some ⟨g2, 0, none⟩) 1 1]); refine (wordBits_any g2 b _ ?_).mono ?_; (go_split_ands; exact SI.s2 (by assumption)); rintro e w' ⟨rfl, hbx⟩))
      go_split_ands
      go_wp2
      go_roundw
      case rel => exact ⟨1, by omega, by go_num, by assumption⟩
      case measure => simp [intOf]
    · go_wp2
      go_ret
      exact ⟨rfl, hs.bel⟩

theorem sameSet_nil (w : World) : Calls Try.prog 20 #[.agg #[.slice none 0 0], .agg #[.slice none 0 0]] w fun e w' => e = .returned (.bool true) ∧ Bel w.heap.size w w' := by
  go_enter Try.func20, Try.ntmps20
  go_wp2_with fail
  refine (wordCount_any _ _ _ _).mono ?_
  rintro e w1 ⟨rfl, hb1⟩
  have hc2 : w1.cell? ⟨w.heap.size + 1, 0, none⟩ = some (.slice none 0 0) := by
    have := Blk.new (w.alloc (.cells #[.slice none 0 0] 32)) #[.slice none 0 0] 32
    exact blk1 (Blk.bel (g := w.heap.size + 1) (by simpa using this) hb1 (by simp))
  have HB := hide (bel_alloc (bel_alloc hb1))
  clear hb1
  go_wp2_with fail
  refine (wordCount_any _ _ _ _).mono ?_
  rintro e w2 ⟨rfl, hb2⟩
  have HB2 := hide ((unhide HB).then hb2)
  clear hb2
  go_wp2_with fail
  refine wp_loop_rounds 1 ?_
  rw [rounds_succ]
  go_wp2
  go_ret
  exact ⟨rfl, unhide HB2⟩

theorem sameSet_any (v1 v2 : Value) (b : Int) (w : World) (h1 : SetOK w v1 b) (h2 : SetOK w v2 b) : Calls Try.prog 20 #[.agg #[v1], .agg #[v2]] w fun e w' => e = .returned (.bool true) ∧ Bel w.heap.size w w' := by
  rcases h1 with ⟨rfl, rfl⟩ | ⟨h0, g1, rfl, hg1⟩
  · rcases h2 with ⟨_, rfl⟩ | ⟨h0, _⟩
    · exact sameSet_nil w
    · exact absurd rfl h0
  · rcases h2 with ⟨h, _⟩ | ⟨_, g2, rfl, hg2⟩
    · exact absurd h h0
    · exact sameSet_one g1 g2 b w hg1 hg2

/-- Two devices of one resource, one id and one node word are the same. -/
theorem sameDevice_any (r i : ByteArray) (v1 v2 : Value) (b : Int) (w : World) (h1 : SetOK w v1 b) (h2 : SetOK w v2 b) :
    Calls Try.prog 12 #[.agg #[.string r, .string i, v1], .agg #[.string r, .string i, v2]] w fun e w' => e = .returned (.bool true) ∧ Bel w.heap.size w w' := by
  have H1 := hide h1
  have H2 := hide h2
  clear h1 h2
  go_enter Try.func12, Try.ntmps12
  go_wp2_with fail
  refine (sameSet_any v1 v2 b _ ((unhide H1).bel ?_) ((unhide H2).bel ?_)).mono ?_
  · exact ((Bel.refl _ _).alloc (Nat.le_refl _) _).alloc (by simp) _
  · exact ((Bel.refl _ _).alloc (Nat.le_refl _) _).alloc (by simp) _
  rintro e w1 ⟨rfl, hb1⟩
  have HB := hide (bel_alloc (bel_alloc hb1))
  clear hb1
  go_wp2
  go_ret
  exact ⟨rfl, unhide HB⟩

end Go.Proofs.Qxb6632322a
