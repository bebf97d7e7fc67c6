import Derived.Test.Qxb6632322aParts
import Derived.Handy
import Derived.BigQuiet
import Derived.Deep.QuietTactic
import Derived.WalkSpells
import Derived.WalkLawsBesides
namespace Go.Proofs.Qxb6632322a
open Go.RowKit

/-- The value of a Set (its one field: a slice of words) that holds the word b at place 0, or nothing. -/
def SetOK (w : World) (v : Value) (b : Int) : Prop :=
  (b = 0 ∧ v = .slice none 0 0) ∨ (b ≠ 0 ∧ ∃ g, v = .slice (some ⟨g, 0, none⟩) 1 1 ∧ Blk w g #[.int .i64 0, .int .u64 b] 58)

theorem SetOK.bel {w w' : World} {v : Value} {b : Int} (h : SetOK w v b) (hb : Bel w.heap.size w w') : SetOK w' v b := by
  rcases h with h | ⟨h0, g, rfl, hg⟩
  · exact .inl h
  · exact .inr ⟨h0, g, rfl, hg.bel hb hg.lt⟩

theorem newSet_any (b : Int) (w : World) : Calls Try.prog 21 #[.int .i64 0, .int .u64 b] w fun e w' => ∃ g, e = .returned (.agg #[.slice (some ⟨g, 0, none⟩) 1 1]) ∧ Blk w' g #[.int .i64 0, .int .u64 b] 58 ∧ Bel w.heap.size w w' := by
  go_enter Try.func21, Try.ntmps21
  go_wp2
  refine bodyPost_ret (v := .agg #[.slice (some ⟨w.heap.size + 1, 0, none⟩) 1 1]) (by simp [results, Try.results21, go_sem]) rfl ⟨_, rfl, ?_, ?_⟩
  · have := Blk.new (w.alloc (.cells #[.slice (some ⟨w.heap.size + 1, 0, none⟩) 1 1] 32)) #[.int .i64 0, .int .u64 b] 58
    simpa using this
  · exact ((Bel.refl _ _).alloc (Nat.le_refl _) _).alloc (by simp) _

theorem setOf_any (b : Int) (w : World) : Calls Try.prog 13 #[.int .u64 b] w fun e w' => ∃ v, e = .returned (.agg #[v]) ∧ SetOK w' v b ∧ Bel w.heap.size w w' := by
  by_cases h : b = 0
  · subst h
    go_enter Try.func13, Try.ntmps13
    go_wp2
    exact bodyPost_ret (v := .agg #[.slice none 0 0]) (by simp [results, Try.results13, go_sem]) rfl ⟨_, rfl, .inl ⟨rfl, rfl⟩, ((Bel.refl _ _).alloc (Nat.le_refl _) _)⟩
  · have hb : (b == 0) = false := by simpa using h
    go_enter Try.func13, Try.ntmps13
    go_wp2_with fail
    refine (newSet_any b _).mono ?_
    rintro e w1 ⟨g, rfl, hg, hb1⟩
    have hn := bel_new hb1
    have hc := hn.cell 0
    have hf := hn.frozen 0
    simp only [List.getElem?_toArray, List.getElem?_cons_zero] at hc
    have HB := hide (bel_alloc hb1)
    have HG := hide hg
    have HN := hide hn
    clear hb1 hn hg
    have h3 := ((unhide HN).setSame 0 (.slice (some ⟨g, 0, none⟩) 1 1)).cell 0
    simp only [List.setIfInBounds_toArray, List.set_cons_zero, List.getElem?_toArray, List.getElem?_cons_zero] at h3
    go_wp2
    refine bodyPost_ret (v := .agg #[.slice (some ⟨g, 0, none⟩) 1 1]) (by simp [results, Try.results13, go_sem, h3]) rfl ⟨_, rfl, .inr ⟨h, g, rfl, ?_⟩, ?_⟩
    · refine (unhide HG).setOther (fun e => ?_) _
      have h1 := unhide HG
      have h2 := unhide HN
      simp only at e
      rw [e] at h1
      rw [Blk, h2] at h1
      simp at h1
    · exact (unhide HB).setCell (Nat.le_refl _) _
end Go.Proofs.Qxb6632322a
