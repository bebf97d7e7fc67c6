import Derived.Test.Qxb6632322aAgrees
import Derived.Test.Qxb6632322aOpen
namespace Go.Proofs.Qxb6632322a.fnAtAgreesAcrossAnyRunCut
open Go.ChangeShapes Go.WideShapes Go.ChangeAt Go.RowKit
set_option linter.unusedVariables false

theorem own : ownKnob Try.prog.godebug = none := by kernel_rfl
theorem laidOut : laidOutB Try.prog = true := by kernel_rfl

set_option maxRecDepth 100000 in
theorem lifted (os : Os) (started : os.Started) (H : Type) (enc : TypeId × Value → H) :
    ReturnsInHanded {} Try.checked os 4 .any (Rows.fnAtAgreesAcrossAnyRunCutSpec.pre6 enc Try.prog Try.f4 Rows.fnAtAgreesAcrossAnyRunCutRow.domain false) (Rows.fnAtAgreesAcrossAnyRunCutSpec.post enc Try.prog Try.f4 false true false false) := by
  refine returnsInHanded_of_change (C := Try.checked) own started (by kernel_rfl) Try.func4
    (ChangeSpec.witness6 (enc := enc) (C := Try.checked) false ⟨#[], #[.slice none 0 0, .slice none 0 0, .slice none 0 0, .slice none 0 0, .int .i64 0], []⟩ 8 (by kernel_rfl) (by kernel_rfl) (by kernel_rfl) (by kernel_rfl)) ?_
  intro W base args ds gs before hval0 hW hcnd _
  have hval : ∀ (j : Nat) t v, Try.f4.params[j]? = some t → args[j]? = some v → Value.okWide Try.prog W .any base t v := hval0
  have hW' := hW
  obtain ⟨p, q, hA0, hV, rfl, hfz, hnd⟩ := hW
  have hA : DataW.TrodAll enc Try.prog W 0 (fun _ => true) true Try.f4.params.toList args.toList ds p := hA0
  rw [Try.params4] at hA hval
  obtain ⟨v0, vs0, d0, ds0, p0, q0, hargs, rfl, rfl, h0, r0⟩ := trodAll_cons hA
  obtain ⟨v1, vs1, d1, ds1, p1, q1, rfl, rfl, rfl, h1, r1⟩ := trodAll_cons r0
  obtain ⟨v2, vs2, d2, ds2, p2, q2, rfl, rfl, rfl, h2, r2⟩ := trodAll_cons r1
  obtain ⟨v3, vs3, d3, ds3, p3, q3, rfl, rfl, rfl, h3, r3⟩ := trodAll_cons r2
  obtain ⟨v4, vs4, d4, ds4, p4, q4, rfl, rfl, rfl, h4, r4⟩ := trodAll_cons r3
  obtain ⟨rfl, rfl, rfl⟩ := trodAll_nil r4
  obtain rfl : args = #[v0, v1, v2, v3, v4] := by cases args; simp_all
  obtain ⟨rfl, rfl⟩ := trodVars_none hV
  obtain ⟨a0, l0, c0, rfl⟩ := okWide_slice Try.underlying22 (hval 0 22 v0 rfl rfl)
  obtain ⟨a1, l1, c1, rfl⟩ := okWide_slice Try.underlying22 (hval 1 22 v1 rfl rfl)
  obtain ⟨a2, l2, c2, rfl⟩ := okWide_slice Try.underlying23 (hval 2 23 v2 rfl rfl)
  obtain ⟨a3, l3, c3, rfl⟩ := okWide_slice Try.underlying24 (hval 3 24 v3 rfl rfl)
  obtain ⟨cut, rfl, rfl, rfl, wcut⟩ := open_int Try.underlying3 (hval 4 3 v4 rfl rfl) h4
  have k0 := h0
  have k1 := h1
  have k2 := h2
  have k3 := h3
  have lt0 : ∀ x ∈ p0, x.block < W.heap.size := by obtain ⟨m, hm⟩ := k0; exact DataW.trod_lt m _ _ _ hm
  have lt1 : ∀ x ∈ p1, x.block < W.heap.size := by obtain ⟨m, hm⟩ := k1; exact DataW.trod_lt m _ _ _ hm
  have lt2 : ∀ x ∈ p2, x.block < W.heap.size := by obtain ⟨m, hm⟩ := k2; exact DataW.trod_lt m _ _ _ hm
  have lt3 : ∀ x ∈ p3, x.block < W.heap.size := by obtain ⟨m, hm⟩ := k3; exact DataW.trod_lt m _ _ _ hm
  obtain ⟨res, rd0, sz0, m0⟩ : ∃ f : Nat → ByteArray, Rd W a0 l0 (fun i => .string (f i)) ∧ (∀ i, (f i).size ≤ maxLen) ∧ l0 ≤ maxLen := by
    obtain ⟨fuel, hf⟩ := h0
    exact rd_strings Try.underlying22 Try.underlying9 (by kernel_rfl) hf
  obtain ⟨ids, rd1, sz1, m1⟩ : ∃ f : Nat → ByteArray, Rd W a1 l1 (fun i => .string (f i)) ∧ (∀ i, (f i).size ≤ maxLen) ∧ l1 ≤ maxLen := by
    obtain ⟨fuel, hf⟩ := h1
    exact rd_strings Try.underlying22 Try.underlying9 (by kernel_rfl) hf
  obtain ⟨st, rd2, m2⟩ : ∃ f : Nat → Bool, Rd W a2 l2 (fun i => .bool (f i)) ∧ l2 ≤ maxLen := by
    obtain ⟨fuel, hf⟩ := h2
    exact rd_bools Try.underlying23 Try.underlying4 (by kernel_rfl) hf
  obtain ⟨nd, rd3, m3⟩ : ∃ f : Nat → Int, Rd W a3 l3 (fun i => .int .u64 (f i)) ∧ l3 ≤ maxLen := by
    obtain ⟨fuel, hf⟩ := h3
    exact rd_ints Try.underlying24 Try.underlying37 (by kernel_rfl) hf
  clear hA0 hval0
  refine (agrees_walk a0 a1 a2 a3 l0 c0 l1 c1 l2 c2 l3 c3 cut res ids st nd W rd0 rd1 rd2 rd3 m0 m1 m2 m3 sz0 sz1).mono fun e W' ⟨he, bel⟩ => ?_
  subst he
  exact ⟨_, rfl, _, _, _, [], _, [], hW', trodAll_mk1 (shut_bool Try.underlying4 _),
    (trodAll_cons_mk (Bel.trod laidOut (by kernel_rfl) (of_decide_eq_true (by kernel_rfl)) k0 bel lt0) (trodAll_cons_mk (Bel.trod laidOut (by kernel_rfl) (of_decide_eq_true (by kernel_rfl)) k1 bel lt1)
      (trodAll_cons_mk (Bel.trod laidOut (by kernel_rfl) (of_decide_eq_true (by kernel_rfl)) k2 bel lt2) (trodAll_cons_mk (Bel.trod laidOut (by kernel_rfl) (of_decide_eq_true (by kernel_rfl)) k3 bel lt3) (trodAll_cons_mk (shut_int Try.underlying3 wcut) trodAll_mk0))))), rfl, bel.frame _, fun h => by cases h⟩

theorem over : Rows.fnAtAgreesAcrossAnyRunCutRow.holds Try.pinned (OpenSpec.ofChange Rows.fnAtAgreesAcrossAnyRunCutSpec) :=
  OpenClaim.holds_of_wide 4 Try.f4 rfl rfl rfl rfl rfl rfl rfl ⟨rfl, rfl, rfl, rfl, rfl⟩ rfl rfl rfl rfl rfl (by kernel_rfl) Try.func4 (by kernel_rfl)
    (of_decide_eq_true (by kernel_rfl)) (by unfold Func.isWrapper; first | (rw [if_pos (by decide +kernel)]; kernel_rfl) | (rw [if_neg (by decide +kernel)]; exact ⟨rfl, rfl⟩))
    (fun os started H enc _ => lifted os started H enc)

/-- THE STATEMENT -/
theorem proved : Rows.FnAtAgreesAcrossAnyRunCutSaid := over
#print axioms proved
end Go.Proofs.Qxb6632322a.fnAtAgreesAcrossAnyRunCut
