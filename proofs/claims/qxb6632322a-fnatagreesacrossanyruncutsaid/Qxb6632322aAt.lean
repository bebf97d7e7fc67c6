import Derived.Test.Qxb6632322aSame2
import Derived.Test.Qxb6632322aGuards
namespace Go.Proofs.Qxb6632322a
open Go.RowKit
set_option linter.unusedVariables false

theorem id_first (g o ge ce n : Nat) (S : ByteArray) (E : Nat) (w : World) (hn : n ≤ 65536) (hp : 0 < n)
    (h2 : w.cell? ⟨g, o + 2, none⟩ = some (.string S)) (h3 : w.cell? ⟨g, o + 3, none⟩ = some (.slice (some ⟨ge, 0, none⟩) n ce))
    (hE : w.cell? ⟨ge, 0, none⟩ = some (.int .i64 E)) (hS : E ≤ S.size) (hM : S.size ≤ 4194304) :
    Calls Try.prog 22 #[.pointer (some ⟨g, o, none⟩), .int .i64 0] w fun e w' => e = .returned (.string (S.extract 0 E)) ∧ Bel w.heap.size w w' := by
  have t1 : (0 : Int) < (n : Int) := by omega
  have t2 : (E : Int) ≤ (S.size : Int) := by omega
  go_enter Try.func22, Try.ntmps22
  go_wp2
  go_quiet (fail)
  go_wp2
  go_ret
  exact ⟨rfl, (Bel.refl _ _).drewN _⟩

theorem id_later (g o ge ce n j : Nat) (S : ByteArray) (E E' : Nat) (w : World) (hn : n ≤ 65536) (hp : 0 < j) (hj : j < n)
    (h2 : w.cell? ⟨g, o + 2, none⟩ = some (.string S)) (h3 : w.cell? ⟨g, o + 3, none⟩ = some (.slice (some ⟨ge, 0, none⟩) n ce))
    (hE : w.cell? ⟨ge, j, none⟩ = some (.int .i64 E)) (hE' : w.cell? ⟨ge, j - 1, none⟩ = some (.int .i64 E')) (hl : E' + 1 ≤ E) (hS : E ≤ S.size) (hM : S.size ≤ 4194304) :
    Calls Try.prog 22 #[.pointer (some ⟨g, o, none⟩), .int .i64 j] w fun e w' => e = .returned (.string (S.extract (E' + 1) E)) ∧ Bel w.heap.size w w' := by
  have t1 : (j : Int) < (n : Int) := by omega
  have t2 : (E : Int) ≤ (S.size : Int) := by omega
  have t3 : (E' : Int) + 1 ≤ (E : Int) := by omega
  have t4 : (0 : Int) < (j : Int) := by omega
  go_enter Try.func22, Try.ntmps22
  go_wp2
  go_quiet (fail)
  go_wp2
  go_ret
  exact ⟨rfl, (Bel.refl _ _).drewN _⟩

/-- Where the id of place j begins, given where each id ends. -/
def beg (E : Nat → Nat) : Nat → Nat
  | 0 => 0
  | j + 1 => E j + 1

/-- The blocks of a run's own slices (ints, int32s, sets, words) are as they were. -/
def Kp (w w' : World) : Prop := ∀ g cs e, (e = 3 ∨ e = 21 ∨ e = 32 ∨ e = 58) → Blk w g cs e → Blk w' g cs e

/-- The device at place j of a run that begins at k: what the run's memory says of it. -/
structure DevOK (w : World) (ids : Nat → ByteArray) (nd : Nat → Int) (k : Nat) (S : ByteArray) (E O : Nat → Nat) (aE aS aO : Array Value) (ns j : Nat) : Prop where
  e : aE[j]? = some (.int .i64 (E j))
  le : beg E j ≤ E j
  sz : E j ≤ S.size
  id : S.extract (beg E j) (E j) = ids (k + j)
  olt : O j < ns
  o : aO[j]? = some (.int .i32 (O j))
  set : ∃ sv, aS[O j]? = some sv ∧ SetOK w sv (nd (k + j))

/-- The memory of a run of n devices that begins at k: its four slices' fields c 2 .. c 5. -/
structure RunMem (w : World) (ids : Nat → ByteArray) (nd : Nat → Int) (k n : Nat) (c : Nat → Value) (S : ByteArray) (E O : Nat → Nat) (aE aS aO : Array Value) (ge ce gs ns cs go co : Nat) : Prop where
  c2 : c 2 = .string S
  c3 : c 3 = .slice (some ⟨ge, 0, none⟩) n ce
  c4 : c 4 = .slice (some ⟨gs, 0, none⟩) ns cs
  c5 : c 5 = .slice (some ⟨go, 0, none⟩) n co
  bE : Blk w ge aE 3
  bS : Blk w gs aS 32
  bO : Blk w go aO 21
  n1 : n ≤ 65536
  n2 : ns ≤ 65536
  n3 : S.size ≤ 4194304
  dev : ∀ j, j < n → DevOK w ids nd k S E O aE aS aO ns j

theorem DevOK.bel {w w' : World} {ids : Nat → ByteArray} {nd : Nat → Int} {k : Nat} {S : ByteArray} {E O : Nat → Nat} {aE aS aO : Array Value} {ns j : Nat} (h : DevOK w ids nd k S E O aE aS aO ns j)
    (hk : ∀ sv b, SetOK w sv b → SetOK w' sv b) : DevOK w' ids nd k S E O aE aS aO ns j := by
  obtain ⟨sv, h1, h2⟩ := h.set
  exact ⟨h.e, h.le, h.sz, h.id, h.olt, h.o, sv, h1, hk _ _ h2⟩

theorem RunMem.keep {w w' : World} {ids : Nat → ByteArray} {nd : Nat → Int} {k n : Nat} {c : Nat → Value} {S : ByteArray} {E O : Nat → Nat} {aE aS aO : Array Value} {ge ce gs ns cs go co : Nat}
    (h : RunMem w ids nd k n c S E O aE aS aO ge ce gs ns cs go co) (hb : Kp w w') : RunMem w' ids nd k n c S E O aE aS aO ge ce gs ns cs go co :=
  ⟨h.c2, h.c3, h.c4, h.c5, hb _ _ _ (by decide) h.bE, hb _ _ _ (by decide) h.bS, hb _ _ _ (by decide) h.bO, h.n1, h.n2, h.n3, fun j hj => (h.dev j hj).bel fun sv b hs => by
    rcases hs with hs | ⟨h0, g, rfl, hg⟩
    · exact .inl hs
    · exact .inr ⟨h0, g, rfl, hb _ _ _ (by decide) hg⟩⟩

theorem keep_of_bel {w w' : World} (hb : Bel w.heap.size w w') : Kp w w' := fun _ _ _ _ h => h.bel hb h.lt

theorem id_any {w : World} {ids : Nat → ByteArray} {nd : Nat → Int} {k n : Nat} {c : Nat → Value} {S : ByteArray} {E O : Nat → Nat} {aE aS aO : Array Value} {ge ce gs ns cs go co : Nat}
    (g o j : Nat) (h : RunMem w ids nd k n c S E O aE aS aO ge ce gs ns cs go co) (hj : j < n)
    (h2 : w.cell? ⟨g, o + 2, none⟩ = some (c 2)) (h3 : w.cell? ⟨g, o + 3, none⟩ = some (c 3)) :
    Calls Try.prog 22 #[.pointer (some ⟨g, o, none⟩), .int .i64 j] w fun e w' => e = .returned (.string (ids (k + j))) ∧ Bel w.heap.size w w' := by
  rw [h.c2] at h2
  rw [h.c3] at h3
  have d := h.dev j hj
  rw [← d.id]
  cases j with
  | zero => exact id_first g o ge ce n S (E 0) w h.n1 hj h2 h3 ((h.bE.cell 0).trans d.e) d.sz h.n3
  | succ j =>
    have d' := h.dev j (by omega)
    exact id_later g o ge ce n (j + 1) S (E (j + 1)) (E j) w h.n1 (by omega) hj h2 h3 ((h.bE.cell _).trans d.e) ((h.bE.cell _).trans d'.e) d.le d.sz h.n3

end Go.Proofs.Qxb6632322a
