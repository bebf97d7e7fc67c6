import Derived.Test.Qxb6632322aDone
import Derived.Test.Qxb6632322aGuards2
namespace Go.Proofs.Qxb6632322a
open Go.RowKit
set_option linter.unusedVariables false

/-- At the head of the loop over the runs: the runs of lo .. k-1 are built. -/
structure Head (w0 w : World) (res ids : Nat → ByteArray) (st : Nat → Bool) (nd : Nat → Int) (lo hi k nr : Nat) (v : Value) (xs : List Value) (P : Nat → Nat) (C : Nat → Nat → Value) : Prop where
  lok : lo ≤ k
  khi : k ≤ hi
  stk : k < hi → st k = true
  own : w.ownsRow w0.heap.size 46 6 v nr xs
  cell : ∀ r, r < nr → ∀ f, f < 6 → xs[r * 6 + f]? = some (C r f)
  runs : Runs w res ids st nd lo k nr P C
  small : nr ≤ k - lo
  bel : Bel w0.heap.size w0 w
  box : Blk w w0.heap.size #[.slice none 0 0, .int .i64 0] 28

theorem cnt_mono (st : Nat → Bool) (a b : Nat) (h : a ≤ b) : cnt st a ≤ cnt st b := by
  induction b with
  | zero => rw [show a = 0 by omega]; exact Nat.le_refl _
  | succ b ih =>
    by_cases e : a = b + 1
    · rw [e]; exact Nat.le_refl _
    · exact Nat.le_trans (ih (by omega)) (Nat.le_add_right _ _)

theorem cnt_lt (st : Nat → Bool) (j n : Nat) (h : j < n) (hs : st j = true) : cnt st j < cnt st n := by
  have h1 := cnt_mono st (j + 1) n h
  have h2 : cnt st (j + 1) = cnt st j + 1 := by show cnt st j + (st j).toNat = _; rw [hs]; rfl
  omega

/-- The cells of a run. -/
def runCells (f : Int) (r s : ByteArray) (ve vs vo : Value) : List Value := [.int .i64 f, .string r, .string s, ve, vs, vo]

theorem Kp.grown46 {w w' : World} {base size n : Nat} {v : Value} {xs : List Value} (hown : w.ownsRow base 46 size v n xs) (hg : w.grownBy w' v.ownBlock) : Kp w w' :=
  fun g cs e he hb => hb.grown hg (own_ne hown hb (by rcases he with rfl | rfl | rfl | rfl <;> decide))

theorem Head.next {w0 wc wr w1 : World} {res ids : Nat → ByteArray} {st : Nat → Bool} {nd : Nat → Int} {lo hi j q nr : Nat} {v v1 ve vs vo vb : Value} {xs : List Value} {P : Nat → Nat} {C : Nat → Nat → Value} {L : List UInt8} {EL : List Nat} {Sv : List Value} {OL : List Nat} {o1 o2 : Obj} {f : Int}
    (h : Head w0 wc res ids st nd lo hi j nr v xs P C) (hbw : Bel wc.heap.size wc wr) (hI : Inn wr wc.heap.size ids nd j q vb ve vs vo L EL Sv OL) (hjq : j < q) (hqh : q ≤ hi) (hfl : ∀ t, j < t → t < q → st t = false) (hsq : q < hi → st q = true)
    (hhi : hi ≤ 65536) (ht : tot ids q ≤ 1048576) (hf : f = ((j - lo : Nat) : Int))
    (hown : w1.ownsRow w0.heap.size 46 6 v1 (nr + 1) (xs ++ runCells f (res (cnt st j)) ⟨L.toArray⟩ ve vs vo)) (hg : ((wr.alloc o1).alloc o2).drew.grownBy w1 v.ownBlock) :
    ∃ P' C', Head w0 w1 res ids st nd lo hi q (nr + 1) v1 (xs ++ runCells f (res (cnt st j)) ⟨L.toArray⟩ ve vs vo) P' C' := by
  have hxl : xs.length = nr * 6 := h.own.1
  have hb2 : Bel wr.heap.size wr ((wr.alloc o1).alloc o2).drew := (((Bel.refl _ _).alloc (Nat.le_refl _) _).alloc (by simp) _).drew
  have hown2 : ((wr.alloc o1).alloc o2).drew.ownsRow w0.heap.size 46 6 v nr xs := own_bel (own_bel h.own hbw) hb2
  have kp2 : Kp wr w1 := fun g cs e he hb => Kp.grown46 hown2 hg g cs e he (keep_of_bel hb2 g cs e he hb)
  have kp : Kp wc w1 := fun g cs e he hb => kp2 g cs e he (keep_of_bel hbw g cs e he hb)
  have hsz0 := h.bel.size
  have belw : Bel w0.heap.size w0 w1 := (h.bel.trans ((hbw.mono hsz0).trans (hb2.mono (Nat.le_trans hsz0 hbw.size)))).trans ((Bel.refl _ _).grown hg (Nat.le_trans (Nat.le_trans hsz0 hbw.size) hb2.size) (fun k hk => (hown2.lt k hk).1))
  have hrun := h.runs
  obtain ⟨ge, ce, gs, cs, go, co, aE, aS, aO, e1, e2, e3, hm⟩ := hI.done hjq (by omega) ht
  have hmono := hrun.mono
  let c : Nat → Value := fun i => (runCells f (res (cnt st j)) ⟨L.toArray⟩ ve vs vo).getD i undef
  have hmem := hm c rfl rfl rfl rfl
  refine ⟨fun r => if r ≤ nr then P r else q, fun r => if r < nr then C r else c, ?_, hqh, hsq, hown, ?_, ⟨?_, ?_, ?_⟩, ?_, belw, ?_⟩
  · have := h.lok; omega
  · intro r hr f' hf'
    by_cases hlt : r < nr
    · simp only [hlt, if_true]
      rw [List.getElem?_append_left (by omega)]
      exact h.cell r hlt f' hf'
    · obtain rfl : r = nr := by omega
      simp only [Nat.lt_irrefl, if_false]
      rw [List.getElem?_append_right (by omega), hxl, Nat.add_sub_cancel_left]
      show _ = some ((runCells f (res (cnt st j)) ⟨L.toArray⟩ ve vs vo).getD f' undef)
      have : f' < (runCells f (res (cnt st j)) ⟨L.toArray⟩ ve vs vo).length := hf'
      simp [List.getD, this]
  · simp [hrun.p0]
  · show (if nr + 1 ≤ nr then P (nr + 1) else q) = q
    rw [if_neg (by omega)]
  · intro r hr
    by_cases hlt : r < nr
    · have h1 : r ≤ nr := by omega
      have h2 : r + 1 ≤ nr := by omega
      simp only [hlt, h1, h2, if_true]
      exact (hrun.run r hlt).keep kp
    · obtain rfl : r = nr := by omega
      have h2 : ¬ (r + 1 ≤ r) := by omega
      simp only [Nat.lt_irrefl, Nat.le_refl, h2, if_true, if_false]
      rw [hrun.pn]
      exact ⟨hjq, by show Value.int .i64 f = _; rw [hf], rfl, h.stk (by omega), hfl, _, _, _, _, _, _, _, _, _, _, _, _, _, hmem.keep kp2⟩
  · have := h.small; have := h.lok; omega
  · exact (((h.box.bel hbw h.box.lt).bel hb2 (by exact Nat.lt_of_lt_of_le h.box.lt hbw.size))).grown hg (own_ne hown2 (((h.box.bel hbw h.box.lt).bel hb2 (by exact Nat.lt_of_lt_of_le h.box.lt hbw.size))) (by decide))

/-- Inside the statement that lays a run down: the caller's memory and the bytes. -/
structure BI (w0 : World) (H : Nat) (vb : Value) (L : List UInt8) (w : World) : Prop where
  bel : Bel w0.heap.size w0 w
  own : w.ownsRow H 5 1 vb L.length (bcells L)

theorem BI.drew {w0 : World} {H : Nat} {vb : Value} {L : List UInt8} {w : World} (h : BI w0 H vb L w) : BI w0 H vb L w.drew := ⟨h.bel.drew, h.own⟩
theorem BI.alloc {w0 : World} {H : Nat} {vb : Value} {L : List UInt8} {w : World} (h : BI w0 H vb L w) (o : Obj) : BI w0 H vb L (w.alloc o) := ⟨h.bel.alloc h.bel.size o, h.own.alloc o⟩
theorem BI.grown {w0 w w' : World} {H : Nat} {vb v : Value} {L : List UInt8} {nr : Nat} {xs : List Value} (hg : w.grownBy w' v.ownBlock) (ho : w.ownsRow w0.heap.size 46 6 v nr xs) (h : BI w0 H vb L w) : BI w0 H vb L w' :=
  ⟨h.bel.grown hg h.bel.size fun k hk => (ho.lt k hk).1, h.own.kept hg (own_own ho h.own (by decide))⟩
theorem BI.all {w0 w : World} {H : Nat} {vb : Value} {L : List UInt8} (h : BI w0 H vb L w) {b off : Nat} {x : Value} (hb : b < w0.heap.size) (hc : w0.cell? ⟨b, off, none⟩ = some x) :
    w.cell? ⟨b, off, none⟩ = some x ∧ (convert 40 9 vb).run Try.prog w = .ok (.string ⟨L.toArray⟩) w ∧ BI w0 H vb L w :=
  ⟨(h.bel.cell (p := ⟨b, off, none⟩) hb).trans hc, conv_buf h.own, h⟩

theorem own_sliceN {w : World} {H : Nat} {e : TypeId} {size : Nat} {v : Value} {n : Nat} {xs : List Value} (h : w.ownsRow H e size v n xs) : ∃ a c, v = .slice a n c := by
  rcases h.2 with ⟨rfl, rfl⟩ | ⟨g, cap, cur, rfl, _⟩
  · exact ⟨_, _, rfl⟩
  · exact ⟨_, _, rfl⟩

/-- The List that the loop leaves behind. -/
theorem Head.list {w0 w : World} {res ids : Nat → ByteArray} {st : Nat → Bool} {nd : Nat → Int} {lo hi nr cap : Nat} {a : Option Addr} {xs : List Value} {P : Nat → Nat} {C : Nat → Nat → Value}
    (h : Head w0 w res ids st nd lo hi hi nr (.slice a nr cap) xs P C) (hhi : hi ≤ 65536) (hlt : lo < hi) {w' : World} (kp : Kp w w') (kp46 : ∀ g cs, Blk w g cs 46 → Blk w' g cs 46) :
    ∃ gr cur P C, a = some ⟨gr, 0, none⟩ ∧ ListOK w' res ids st nd lo hi gr nr cur P C := by
  have hsm := h.small
  rcases h.own.2 with ⟨_, h0⟩ | ⟨g, cap', cur, e, hb, hg, hnc, hcm, hcs, htake⟩
  · exfalso
    have h1 := h.runs.p0
    have h2 := h.runs.pn
    rw [h0] at h2
    omega
  · simp only [Value.slice.injEq, true_and] at e
    obtain ⟨rfl, rfl⟩ := e
    refine ⟨g, cur, P, C, rfl, h.runs.keep kp, kp46 g cur hg, fun r hr f hf => ?_, by omega, hhi⟩
    rw [← h.cell r hr f hf, ← htake, List.getElem?_take, if_pos (by omega)]
    simp

end Go.Proofs.Qxb6632322a
