import Derived.Test.Qxb6632449aDoorCutProof
namespace Go.Proofs.Qxb6632449aDoor.fnSlotHoldsCutAndOrder
open Go
set_option linter.unusedVariables false
set_option maxRecDepth 100000

/-- THE STATEMENT: the tied card. -/
theorem card : Rows.FnSlotHoldsCutAndOrderCardSaid :=
  Claim7.holds_tied_plain_at .later [] [.data, .data, .data] true (true, "2e28aa3b22d6cb458a37c90e563b8aca442d520accaf3d7a7b8105bf98336c8f") false
    over (fun _ h => by cases h) (by kernel_rfl) (fun _ h => by cases h) fnSlotHoldsCutAndOrder_row_tie rfl ⟨rfl, rfl⟩ (by kernel_rfl) rfl
    (fun f fn hf hfn => by
      obtain rfl : f = 4 := Option.some.inj ((show Tryd.prog.funcNamed "example.com/kilit/kilit/zzlaws_internal_lockkey_b1.FnSlotHoldsCutAndOrder" = some 4 by kernel_rfl).symm.trans hf) |>.symm
      obtain rfl : fn = Tryd.f4 := (Option.some.inj (Tryd.func4.symm.trans hfn)).symm
      exact ⟨by kernel_rfl, fun j t ht => by
        rw [Tryd.params4] at ht
        have h3 : t = 22 ∨ t = 3 := by
          rcases j with _ | _ | _ | j
          · left; simpa using ht.symm
          · right; simpa using ht.symm
          · right; simpa using ht.symm
          · simp at ht
        rcases h3 with rfl | rfl
        · exact (show Tryd.prog.wantsStandIn 22 = false by kernel_rfl)
        · exact (show Tryd.prog.wantsStandIn 3 = false by kernel_rfl)⟩)
    (by kernel_rfl)
end Go.Proofs.Qxb6632449aDoor.fnSlotHoldsCutAndOrder
