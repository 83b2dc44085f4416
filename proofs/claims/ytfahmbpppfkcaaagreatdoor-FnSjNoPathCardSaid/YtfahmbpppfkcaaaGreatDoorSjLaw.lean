/- FnSjNoPath: for every text and raw text the law returns true and leaves its arguments as they were: the row and its tied card (the listed package-level variables read as the program's text lays them). -/
import Derived.Test.YtfahmbpppfkcaaaGreatDoorCards
import Derived.Test.YtfahmbpppfkcaaaGreatDoorTie
import Derived.Test.YtfahmbpppfkcaaaGreatDoorLaid
import Derived.Test.YtfahmbpppfkcaaaGreatDoorSjC
import Derived.Lay
import Derived.SevenTiedAt
namespace Go.Proofs.YtfahmbpppfkcaaaGreatDoor.SjLaw
open Go.ChangeShapes Go.WideShapes Go.ChangeAt Go.RowKit
open Go.ChangeMaps (setBlock shut_map_nil open_string shut_string keptBut_setBlock frozen?_setBlock heap_setBlock_same)
open Laid

theorem laidOut : laidOutB Tryz.prog = true := by kernel_rfl

set_option maxRecDepth 100000 in
theorem lifted (os : Os) (started : os.Started) (H : Type) (enc : TypeId × Value → H) :
    ReturnsInHanded {} Tryz.checked os 10 .any (fun w args => (Rows.fnSjNoPathSpec.pre enc Tryz.prog Tryz.f10 Rows.fnSjNoPathRow.domain false w args ∧ laidMetH Tryz.prog Rows.fnSjNoPathRow.laid w) ∧ sizedMet enc Tryz.prog Tryz.f10 (OpenSpec.ofChange Rows.fnSjNoPathSpec) false w args)
      (Rows.fnSjNoPathSpec.post enc Tryz.prog Tryz.f10 false true false false) := by
  refine returnsInHanded_of_change_and (C := Tryz.checked) (X := fun w _ => laidMetH Tryz.prog Rows.fnSjNoPathRow.laid w) (fun _ _ _ hh h => h.of_heap hh) own started (by kernel_rfl) Tryz.func10
    (ChangeSpec.witness_shaped (enc := enc) (C := Tryz.checked) (os := os) (X := fun w _ => laidMetH Tryz.prog Rows.fnSjNoPathRow.laid w) false (World.laidAll Tryz.prog os Rows.fnSjNoPathRow.laid) #[.string ⟨#[]⟩, .string ⟨#[]⟩] 8 (World.laidAll_os _ _ _)
      (World.shaped_of_ZipB (by kernel_rfl) (by kernel_rfl)) (by kernel_rfl) (by kernel_rfl) (by kernel_rfl)
      (by rw [MakeChecks.laidMetH_plain _ _ _ (by kernel_rfl)]; exact laidMet_laidAll _ (by kernel_rfl) (by kernel_rfl))) ?_
  intro W base args ds gs before hval0 hW hc _ hL _
  have hval : ∀ (j : Nat) t v, Tryz.f10.params[j]? = some t → args[j]? = some v → Value.okWide Tryz.prog W .any base t v := hval0
  have hW' := hW
  obtain ⟨p, q, hA0, hV, rfl, _, _⟩ := hW
  have hA : DataW.TrodAll enc Tryz.prog W 0 (fun _ => true) true Tryz.f10.params.toList args.toList ds p := hA0
  rw [Tryz.params10] at hA hval
  obtain ⟨v0, v1, d0, d1, p0, p1, rfl, rfl, rfl, h0, h1⟩ := trodAll_two hA
  obtain ⟨rfl, rfl⟩ := trodVars_none hV
  obtain ⟨s, rfl, rfl, rfl, hs⟩ := open_string Tryz.underlying9 (hval 0 9 v0 rfl rfl) h0
  obtain ⟨raw, rfl, rfl, rfl, hr⟩ := open_string Tryz.underlying9 (hval 1 9 v1 rfl rfl) h1
  obtain ⟨g, hsj⟩ := sjW hL
  simp only [List.append_nil] at hW'
  refine (SjC.law_walk s raw W g hsj (by unfold maxLen at hs; omega) (by unfold maxLen at hr; omega)).mono fun e W' ⟨he, hb⟩ => ?_
  subst he
  exact ⟨_, rfl, _, _, _, [], _, [], hW', trodAll_mk1 (shut_bool Tryz.underlying4 _), trodAll_mk2 (shut_string Tryz.underlying9 hs) (shut_string Tryz.underlying9 hr), rfl, hb.frame _, fun h => by cases h⟩

end Go.Proofs.YtfahmbpppfkcaaaGreatDoor.SjLaw
