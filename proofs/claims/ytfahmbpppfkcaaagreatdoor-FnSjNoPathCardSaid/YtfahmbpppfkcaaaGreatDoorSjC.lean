/- sjson.SetRaw of null at the path "a" in the empty text is no error: the thin package's SjSetRaw answers true. -/
import Derived.Test.YtfahmbpppfkcaaaGreatDoorSjB
namespace Go.Proofs.YtfahmbpppfkcaaaGreatDoor.SjC
open Go.RowKit Go.Proofs.YtfahmbpppfkcaaaGreatDoorW.PrintWords
open SjA SjB Base
attribute [local go_sem] run_store_float
set_option linter.unusedVariables false
set_option linter.unusedSimpArgs false
set_option maxRecDepth 100000 in
set_option maxHeartbeats 4000000 in
theorem set_a (w : World) : Calls Tryz.prog 126 #[.string ⟨#[]⟩, .string ⟨#[97]⟩, .string ⟨#[110, 117, 108, 108]⟩, .bool false, .bool false, .bool false, .bool false] w
    fun e w' => ∃ v1, e = .returned (.tuple #[v1, .nilIface]) ∧ ∃ xs, Ob w w' v1 xs := by
  go_enter Tryz.func126, Tryz.ntmps126
  go_wp2_with (first
    | (go_at_call 164; refine (parse_a _).mono ?_; rintro e w1 ⟨rfl, hb1⟩; obtain ⟨q1, f1⟩ := bcell hb1; have B1 : Below w.heap.size w w1 := below_step (by repeat (with_reducible first | exact Below.refl w.heap.size w | apply below_alloc | (refine below_set ?_ (by first | (simp; done) | (simp; omega))) | apply below_drew1 | apply pw_below_drewN)) hb1; have z1 := hb1.size; try simp at z1))
  refine wp_loop_rounds 1 ?_
  rw [rounds_succ]
  go_wp2_with (go_at_call 166; refine (rawPaths_a _ _ _ (by simp) ?_ ?_ ?_ ?_ ?_).mono ?_)
  iterate 5 (rotate_left; skip)
  · rintro e w2 ⟨v2, rfl, xs, HO⟩
    go_wp2
    go_ret2
    exact ⟨_, rfl, xs, by simpa using HO.weaken (w0 := w) (by repeat (with_reducible first | exact B1 | apply below_alloc | apply below_drew1))⟩
  all_goals (simp [go_sem, Array.getElem?_append])
set_option maxRecDepth 100000 in
theorem rawOpts_a (w : World) (g : Addr) (hs : SjW w g) :
    Calls Tryz.prog 88 #[.string ⟨#[]⟩, .string ⟨#[97]⟩, .string ⟨#[110, 117, 108, 108]⟩, .pointer none] w fun e w' => ∃ (v : ByteArray), e = .returned (.tuple #[.string v, .nilIface]) ∧ Below w.heap.size w w' := by
  go_enter Tryz.func88, Tryz.ntmps88
  go_wp2_with (go_at_call 126; refine (set_a _).mono ?_; rintro e w' ⟨v, rfl, xs, HO⟩; have hq := run_eql_iface_nil_left (P := Tryz.prog) (w := w') (ti := 97) 238 (.pointer (some g)) Tryz.underlying97; have hc := (hs.below HO.bel).cell; have hv := HO.str)
  go_ret2
  exact ⟨_, rfl, HO.bel⟩
set_option maxRecDepth 100000 in
theorem setRaw_a (w : World) (g : Addr) (hs : SjW w g) :
    Calls Tryz.prog 62 #[.string ⟨#[]⟩, .string ⟨#[97]⟩, .string ⟨#[110, 117, 108, 108]⟩] w fun e w' => ∃ (v : ByteArray), e = .returned (.tuple #[.string v, .nilIface]) ∧ Below w.heap.size w w' := by
  go_enter Tryz.func62, Tryz.ntmps62
  go_wp2_with (go_at_call 88; refine (rawOpts_a _ g hs).mono ?_; rintro e w' ⟨v, rfl, hb⟩)
  go_ret2
  exact ⟨_, rfl, hb⟩
set_option maxRecDepth 100000 in
theorem sjSetRaw_a (w : World) (g : Addr) (hs : SjW w g) :
    Calls Tryz.prog 37 #[.string ⟨#[]⟩, .string ⟨#[97]⟩, .string ⟨#[110, 117, 108, 108]⟩] w fun e w' => ∃ (v : ByteArray), e = .returned (.tuple #[.string v, .bool true]) ∧ Below w.heap.size w w' := by
  go_enter Tryz.func37, Tryz.ntmps37
  go_wp2_with (go_at_call 62; refine (setRaw_a _ g hs).mono ?_; rintro e w' ⟨v, rfl, hb⟩)
  go_ret2
  exact ⟨_, rfl, hb⟩
set_option maxRecDepth 100000 in
/-- The law's walk. -/
theorem law_walk (s raw : ByteArray) (w : World) (g : Addr) (hs : SjW w g) (h1 : s.size ≤ 9223372036854775807) (h2 : raw.size ≤ 9223372036854775807) :
    Calls Tryz.prog 10 #[.string s, .string raw] w fun e w' => e = .returned (.bool true) ∧ Below w.heap.size w w' := by
  by_cases a1 : 4096 < s.size
  · go_enter Tryz.func10, Tryz.ntmps10
    go_wp2
    all_goals (go_ret; exact ⟨rfl, Below.refl _ _⟩)
  by_cases a2 : 4096 < raw.size
  · go_enter Tryz.func10, Tryz.ntmps10
    go_wp2
    all_goals (go_ret; exact ⟨rfl, Below.refl _ _⟩)
  go_enter Tryz.func10, Tryz.ntmps10
  go_wp2_with fail
  refine (sjSetRaw_empty s raw w g hs h1).mono ?_
  rintro e w1 ⟨rfl, hb1⟩
  go_wp2_with fail
  refine (sjDelete_empty s w1 g (hs.below hb1) h1).mono ?_
  rintro e w2 ⟨rfl, hb2⟩
  go_wp2_with fail
  refine (sjSetRaw_a w2 g ((hs.below hb1).below hb2)).mono ?_
  rintro e w3 ⟨v, rfl, hb3⟩
  go_wp2
  go_ret
  exact ⟨rfl, below_step (below_step hb1 hb2) hb3⟩
end Go.Proofs.YtfahmbpppfkcaaaGreatDoor.SjC
