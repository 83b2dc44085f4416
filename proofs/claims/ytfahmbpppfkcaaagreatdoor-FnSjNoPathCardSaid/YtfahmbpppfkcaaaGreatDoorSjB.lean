/- sjson.SetRaw of null at the path "a" in the empty text is no error. -/
import Derived.Test.YtfahmbpppfkcaaaGreatDoorSjA
import Derived.Test.YtfahmbpppfkcaaaGreatDoorBase
namespace Go.Proofs.YtfahmbpppfkcaaaGreatDoor.SjB
open Go.RowKit Go.Proofs.YtfahmbpppfkcaaaGreatDoorW.PrintWords
open SjA Base
attribute [local go_sem] run_store_float
set_option linter.unusedVariables false
set_option linter.unusedSimpArgs false
abbrev S (l : List UInt8) : ByteArray := ⟨l.toArray⟩
/-- gjson's Result that says nothing. -/
abbrev res0 : Value := .agg #[.int .i64 0, .string ⟨#[]⟩, .string ⟨#[]⟩, .float .f64 0, .int .i64 0, .slice none 0 0]
set_option maxRecDepth 100000 in
set_option maxHeartbeats 1000000 in
theorem get_empty (w : World) : Calls Tryz.prog 50 #[.string ⟨#[]⟩, .string ⟨#[97]⟩] w fun e w' => e = .returned res0 ∧ Below w.heap.size w w' := by
  go_enter Tryz.func50, Tryz.ntmps50
  go_wp2
  refine wp_loop_rounds 1 ?_
  rw [rounds_succ]
  go_wp2
  exact bodyPost_ret (v := res0) (by simp [results, Tryz.results50, go_sem]) rfl ⟨rfl, below_alloc (below_alloc (Below.refl _ _) _) _⟩
set_option maxRecDepth 100000 in
theorem must_a (w : World) : Calls Tryz.prog 162 #[.string ⟨#[97]⟩] w fun e w' => e = .returned (.bool false) ∧ w = w' := by
  go_enter Tryz.func162, Tryz.ntmps162
  go_wp2
  refine wp_loop_rounds 2 ?_
  rw [rounds_succ]
  go_wp2
  rw [rounds_succ]
  go_wp2
  go_ret
  exact ⟨rfl, rfl⟩
set_option maxRecDepth 100000 in
theorem stringify_a (w0 w : World) (v : Value) (xs : List Int) (HO : Ob w0 w v xs) (hl : xs.length ≤ 1000) :
    Calls Tryz.prog 163 #[v, .string ⟨#[97]⟩] w fun e w' => ∃ v1, e = .returned v1 ∧ Ob w0 w' v1 (xs ++ [34, 97, 34]) := by
  go_enter Tryz.func163, Tryz.ntmps163
  go_wp2_with (first
    | (go_at_call 162; refine (must_a _).mono ?_; rintro e w' ⟨rfl, rfl⟩)
    | (at_builtin; refine ob_app1 rfl rfl rfl rfl HO (by omega) ?_; clear HO; intro v1 w1 HO1)
    | (at_builtin; refine ob_appS rfl rfl rfl rfl HO1 (by simp [ByteArray.size]; omega) ?_; clear HO1; intro v2 w2 HO2)
    | (at_builtin; refine ob_app1 rfl rfl rfl rfl HO2 (by simp [bytesOf]; omega) ?_; clear HO2; intro v3 w3 HO3))
  go_ret
  exact ⟨_, rfl, by simpa [bytesOf] using HO3⟩
set_option maxRecDepth 100000 in
theorem atoui_a (w : World) (x y : ByteArray) : Calls Tryz.prog 227 #[.agg #[.string ⟨#[97]⟩, .string x, .string y, .bool false, .bool false]] w fun e w' => e = .returned (.tuple #[.int .i64 0, .bool false]) ∧ Below w.heap.size w w' := by
  go_enter Tryz.func227, Tryz.ntmps227
  go_wp2
  refine wp_loop_rounds 1 ?_
  rw [rounds_succ]
  go_wp2
  go_ret2
  exact ⟨rfl, below_alloc (Below.refl _ _) _⟩
set_option maxRecDepth 100000 in
theorem parse_a (w : World) : Calls Tryz.prog 164 #[.string ⟨#[97]⟩] w fun e w' => e = .returned (.tuple #[.agg #[.string ⟨#[97]⟩, .string ⟨#[97]⟩, .string ⟨#[]⟩, .bool false, .bool false], .bool true]) ∧ Below w.heap.size w w' := by
  go_enter Tryz.func164, Tryz.ntmps164
  go_wp2
  refine wp_loop_rounds 2 ?_
  rw [rounds_succ]
  go_wp2
  rw [rounds_succ]
  go_wp2
  refine bodyPost_ret (v := .tuple #[.agg #[.string ⟨#[97]⟩, .string ⟨#[97]⟩, .string ⟨#[]⟩, .bool false, .bool false], .bool true]) (by simp [results, Tryz.results164, go_sem]) rfl ⟨rfl, (by repeat (first | exact Below.refl _ _ | apply below_alloc | (refine below_set ?_ (by simp; done)) | (refine below_set ?_ (by simp; omega)) | apply below_drew1 | apply pw_below_drewN))⟩
set_option maxRecDepth 100000 in
theorem build_a (w0 w : World) (v : Value) (xs : List Int) (HO : Ob w0 w v xs) (hl : xs.length ≤ 500) (g c : Nat) (hc : w.cell? ⟨g, 0, none⟩ = some (.string ⟨#[97]⟩)) (hg : g < w.heap.size) :
    Calls Tryz.prog 228 #[v, .bool false, .slice (some ⟨g, 0, none⟩) 1 c, .string ⟨#[110, 117, 108, 108]⟩, .bool false] w fun e w' => ∃ v1, e = .returned v1 ∧ Ob w0 w' v1 (xs ++ [34, 97, 34] ++ [58] ++ [110, 117, 108, 108]) := by
  go_enter Tryz.func228, Tryz.ntmps228
  go_wp2_with (first
    | (go_at_call 163; refine (stringify_a w0 _ v xs HO (by omega)).mono ?_; clear HO; rintro e w' ⟨v1, rfl, HO1⟩)
    | (at_builtin; refine ob_app1 rfl rfl rfl rfl HO1 (by simp; omega) ?_; clear HO1; intro v1 w1 HO2)
    | (at_builtin; refine ob_appS rfl rfl rfl rfl HO2 (by simp [ByteArray.size]; omega) ?_; clear HO2; intro v2 w2 HO3))
  go_ret
  exact ⟨_, rfl, by simpa [bytesOf] using HO3⟩
/-- gjson's Result of the text "{}". -/
abbrev resB : Value := .agg #[.int .i64 5, .string ⟨#[123, 125]⟩, .string ⟨#[]⟩, .float .f64 0, .int .i64 0, .slice none 0 0]
set_option maxRecDepth 100000 in
set_option maxHeartbeats 1000000 in
theorem parse_braces (w : World) : Calls Tryz.prog 71 #[.string ⟨#[123, 125]⟩] w fun e w' => e = .returned resB ∧ Below w.heap.size w w' := by
  have hx : ({ data := #[123, 125] } : ByteArray).extract 0 2 = { data := #[123, 125] } := by decide
  go_enter Tryz.func71, Tryz.ntmps71
  go_wp2
  refine wp_loop_rounds 1 ?_
  rw [rounds_succ]
  go_wp2
  exact bodyPost_ret (v := resB) (by simp [results, Tryz.results71, go_sem]) rfl ⟨rfl, (by repeat (first | exact Below.refl _ _ | apply below_alloc | (refine below_set ?_ (by simp; done)) | (refine below_set ?_ (by simp; omega)) | apply below_drew1 | apply pw_below_drewN))⟩
set_option maxRecDepth 100000 in
set_option maxHeartbeats 8000000 in
theorem rawPaths_a (w : World) (g c : Nat) (hg : g < w.heap.size) (hc0 : w.cell? ⟨g, 0, none⟩ = some (.string ⟨#[97]⟩)) (hc1 : w.cell? ⟨g, 1, none⟩ = some (.string ⟨#[97]⟩)) (hc2 : w.cell? ⟨g, 2, none⟩ = some (.string ⟨#[]⟩)) (hc3 : w.cell? ⟨g, 3, none⟩ = some (.bool false)) (hc4 : w.cell? ⟨g, 4, none⟩ = some (.bool false)) :
    Calls Tryz.prog 166 #[.slice none 0 0, .string ⟨#[]⟩, .slice (some ⟨g, 0, none⟩) 1 c, .string ⟨#[110, 117, 108, 108]⟩, .bool false, .bool false] w fun e w' => ∃ v1, e = .returned (.tuple #[v1, .nilIface]) ∧ ∃ xs, Ob w w' v1 xs := by
  go_enter Tryz.func166, Tryz.ntmps166
  go_wp2_with (first
    | (go_at_call 50; refine (get_empty _).mono ?_; rintro e w1 ⟨rfl, hb1⟩; obtain ⟨q1, f1⟩ := bcell hb1; have B1 : Below w.heap.size w w1 := below_step (by repeat (with_reducible first | exact Below.refl w.heap.size w | apply below_alloc | (refine below_set ?_ (by first | (simp; done) | (simp; omega))) | apply below_drew1 | apply pw_below_drewN)) hb1; have z1 := hb1.size; simp at z1)
    | (go_at_call 227; refine (atoui_a _ _ _).mono ?_; rintro e w2 ⟨rfl, hb2⟩; obtain ⟨q2, f2⟩ := bcell hb2; have B2 : Below w.heap.size w w2 := below_step (by repeat (with_reducible first | exact B1 | apply below_alloc | (refine below_set ?_ (by first | (simp; done) | (simp; omega))) | apply below_drew1 | apply pw_below_drewN)) hb2; have z2 := hb2.size; simp at z2))
  refine wp_loop_rounds 1 ?_
  rw [rounds_succ]
  go_wp2_with (go_at_call 71; refine (parse_braces _).mono ?_; rintro e w3 ⟨rfl, hb3⟩; obtain ⟨q3, f3⟩ := bcell hb3; have B3 : Below w.heap.size w w3 := below_step (by repeat (with_reducible first | exact B2 | apply below_alloc | (refine below_set ?_ (by first | (simp; done) | (simp; omega))) | apply below_drew1 | apply pw_below_drewN)) hb3; have z3 := hb3.size; try simp at z3)
  refine wp_loop_rounds 1 ?_
  rw [rounds_succ]
  go_wp2_with fail
  refine wp_loop_rounds 1 ?_
  rw [rounds_succ]
  go_wp2_with (first
    | (at_builtin; refine ob_appS rfl rfl rfl rfl (Ob.nil' (w0 := w) (by repeat (with_reducible first | exact B3 | apply below_alloc | (refine below_set ?_ (by first | (simp; done) | (simp; omega))) | apply below_drew1 | apply pw_below_drewN))) (by decide) ?_; clear q3; intro v4 w4 HO4)
    | (go_at_call 228; refine (build_a w _ _ _ HO4 (by decide) g c (pw_cell_below HO4.bel hc0) (Nat.lt_of_lt_of_le hg HO4.bel.size)).mono ?_; rintro e w5 ⟨v5, rfl, HO5⟩; clear HO4)
    | (at_builtin; refine ob_app1 rfl rfl rfl rfl HO5 (by decide) ?_; clear HO5; intro v6 w6 HO6))
  go_ret2
  exact ⟨_, rfl, _, HO6⟩
end Go.Proofs.YtfahmbpppfkcaaaGreatDoor.SjB
