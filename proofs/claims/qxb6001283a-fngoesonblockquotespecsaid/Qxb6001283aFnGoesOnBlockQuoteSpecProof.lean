/-
  THE PROOF OF 'Rows.FnGoesOnBlockQuoteSpecSaid', its last part: the row (the frame: written by the guide's program off this function's print).
-/
import Derived.Test.Qxb6001283aRows
import Derived.Test.Qxb6001283aLift
import Derived.Test.Qxb6001283aFacts
namespace Go.Proofs.Qxb6001283a.fnGoesOnBlockQuoteSpec
open Go.ChangeShapes Go.WideShapes Go.ChangeAt Go.RowKit

theorem over : Rows.fnGoesOnBlockQuoteSpecRow.holds Try.pinned (OpenSpec.ofChange Rows.fnGoesOnBlockQuoteSpecSpec) :=
  OpenClaim.holds_of_wide 10 Try.f10 rfl rfl rfl rfl rfl rfl rfl ⟨rfl, rfl, rfl, rfl, rfl⟩ rfl rfl rfl rfl rfl (by kernel_rfl) Try.func10 closed
    (of_decide_eq_true (by kernel_rfl)) (by unfold Func.isWrapper; first | (rw [if_pos (by decide +kernel)]; kernel_rfl) | (rw [if_neg (by decide +kernel)]; exact ⟨rfl, rfl⟩))
    (fun os started H enc _ => lifted os started H enc)

/-- THE STATEMENT -/
theorem proved : Rows.FnGoesOnBlockQuoteSpecSaid := over
end Go.Proofs.Qxb6001283a.fnGoesOnBlockQuoteSpec
