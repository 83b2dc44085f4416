/- FnSjNoPath: the row holds: for every text and raw text the law returns true and leaves its arguments as they were, taking that the listed package-level variables read as listed. -/
import Derived.Test.YtfahmbpppfkcaaaGreatDoorSjLaw
namespace Go.Proofs.YtfahmbpppfkcaaaGreatDoor.SjLaw
open Go.ChangeShapes Go.WideShapes Go.ChangeAt Go.RowKit
set_option maxHeartbeats 4000000 in
theorem said : Rows.FnSjNoPathSaid :=
  OpenClaim.holds_of_wide 10 Tryz.f10 rfl rfl rfl rfl rfl rfl rfl ⟨rfl, rfl, rfl, rfl, rfl⟩ rfl rfl rfl rfl rfl (by as_aux_lemma => kernel_rfl) Tryz.func10 (by kernel_rfl)
    (of_decide_eq_true (by kernel_rfl)) (by unfold Func.isWrapper; first | (rw [if_pos (by decide +kernel)]; kernel_rfl) | (rw [if_neg (by decide +kernel)]; exact ⟨rfl, rfl⟩))
    (fun os started H enc _ => lifted os started H enc)
end Go.Proofs.YtfahmbpppfkcaaaGreatDoor.SjLaw
