/- FnSjNoPath: the tied card: for every text and raw text the law returns true and leaves its arguments as they were; the listed package-level variables read as the program's text lays them. -/
import Derived.Test.YtfahmbpppfkcaaaGreatDoorSjSaid
namespace Go.Proofs.YtfahmbpppfkcaaaGreatDoor.SjLaw
open Go.ChangeShapes Go.WideShapes Go.ChangeAt Go.RowKit
theorem plain (f : FuncId) (fn : Func) (hf : Tryz.pinned.checked.prog.funcNamed "pub-tetrapla/laws.FnSjNoPath" = some f) (hfn : Tryz.pinned.checked.prog.funcs[f]? = some fn) :
    true = Tryz.pinned.checked.prog.looks [] ∧ ∀ (j : Nat) t, fn.params[j]? = some t → Tryz.pinned.checked.prog.wantsStandIn t = false := by
  obtain rfl : f = 10 := Option.some.inj ((show Tryz.prog.funcNamed "pub-tetrapla/laws.FnSjNoPath" = some 10 by kernel_rfl).symm.trans hf) |>.symm
  obtain rfl : fn = Tryz.f10 := (Option.some.inj (Tryz.func10.symm.trans hfn)).symm
  refine ⟨by kernel_rfl, fun j t ht => ?_⟩
  rw [Tryz.params10] at ht
  have hm : t ∈ [9, 9] := by simpa using Array.mem_of_getElem? ht
  have hall : ([9, 9].all fun u => !Tryz.prog.wantsStandIn u) = true := by kernel_rfl
  exact (show Tryz.prog.wantsStandIn t = false by simpa using List.all_eq_true.1 hall t hm)

/-- THE CARD -/
theorem card : Rows.FnSjNoPathCardSaid :=
  Claim7.holds_tied_plain_at .later [] _ _ _ _ said (fun _ h => by cases h) (by kernel_rfl) (fun _ h => by cases h) fnSjNoPath_row_tie rfl ⟨rfl, rfl⟩ (by kernel_rfl) rfl plain (by kernel_rfl)
#print axioms card
end Go.Proofs.YtfahmbpppfkcaaaGreatDoor.SjLaw
namespace Go.Proofs.YtfahmbpppfkcaaaGreatDoor
theorem fnSjNoPath_holds : Rows.FnSjNoPathCardSaid := SjLaw.card
end Go.Proofs.YtfahmbpppfkcaaaGreatDoor
