/- The closed facts of the row of FnPartial: what is left to show is the call itself. The condition stands in the law. -/
import Derived.Test.YtdllckiidegpcaaGreatRows
import Derived.JoinedOf
set_option linter.unusedSimpArgs false
set_option linter.unusedVariables false
namespace Go.Proofs.YtdllckiidegpcaaGreat
theorem row_closed : joinedFacts Tryz.pinned.checked.prog 3 Tryz.f3 Rows.fnPartialSpec Rows.fnPartialRow = true := by kernel_rfl
theorem row_inst : Tryz.f3.isInstance Tryz.pinned.checked.prog Rows.fnPartialRow.origin Rows.fnPartialRow.targs := of_decide_eq_true (by kernel_rfl)
theorem row_wrap : Tryz.f3.isWrapper Tryz.pinned.checked.prog Rows.fnPartialRow.wrapper Rows.fnPartialRow.mainSum := by unfold Func.isWrapper; first | (rw [if_pos (by decide +kernel)]; kernel_rfl) | (rw [if_neg (by decide +kernel)]; exact ⟨rfl,rfl⟩)
theorem row_over (h : ∀ os : Os,os.Started → ∀ (H : Type) (enc : TypeId × Value → H),ReturnsInHanded {} Tryz.checked os 3 .any (Rows.fnPartialSpec.pre6 enc Tryz.prog Tryz.f3 Rows.fnPartialRow.domain false) (Rows.fnPartialSpec.post enc Tryz.prog Tryz.f3 false true false false)) : Rows.fnPartialRow.holds Tryz.pinned (OpenSpec.ofChange Rows.fnPartialSpec) :=
 OpenClaim.holds_of_wide 3 Tryz.f3 rfl rfl rfl rfl rfl rfl rfl ⟨rfl,rfl,rfl,rfl,rfl⟩ rfl rfl rfl rfl rfl (by kernel_rfl) Tryz.func3 row_closed row_inst row_wrap
  (fun os started H enc _ => h os started H enc)
end Go.Proofs.YtdllckiidegpcaaGreat
