/- sjson.set with the empty path is an error: SetRaw and Delete of the thin package answer false. -/
import Derived.Test.YtfahmbpppfkcaaaGreatDoorBase
namespace Go.Proofs.YtfahmbpppfkcaaaGreatDoor.SjA
open Go.RowKit Go.Proofs.YtfahmbpppfkcaaaGreatDoorW.PrintWords
open Base
set_option linter.unusedVariables false
set_option linter.unusedSimpArgs false

/-- What the calls need of the world: the variable errNoChange holds a pointer to a block of its own. -/
structure SjW (w : World) (g : Addr) : Prop where
  cell : w.cell? ⟨1, 0, none⟩ = some (.iface 238 (.pointer (some g)))
  blk : ∃ c t, w.heap[g.block]? = some (.cells c t (0, 0))
theorem SjW.below {w w' : World} {g : Addr} (h : SjW w g) (hb : Below w.heap.size w w') : SjW w' g := by
  obtain ⟨c, t, hg⟩ := h.blk
  have hl : g.block < w.heap.size := (Array.getElem?_eq_some_iff.1 hg).1
  exact ⟨pw_cell_below hb h.cell, c, t, by rw [hb.block _ hl]; exact hg⟩
/-- A new error of errors.New. -/
structure ErrAt (w w' : World) (a : Addr) : Prop where
  new : w.heap.size ≤ a.block
  blk : ∃ c t, w'.heap[a.block]? = some (.cells c t (0, 0))

theorem info238 : (Tryz.prog.info? 238).map (fun i => i.comparable) = some true := by kernel_rfl
theorem info240 : (Tryz.prog.info? 240).map (fun i => decide (i.size = 0)) = some false := by kernel_rfl
theorem eql_other {w w0 : World} {a g : Addr} (hs : SjW w0 g) (hb : Below w0.heap.size w0 w) (he : ErrAt w0 w a) :
    (binOp .eql 97 (.iface 238 (.pointer (some a))) (.iface 238 (.pointer (some g)))).run Tryz.prog w = .ok (.bool false) w := by
  obtain ⟨c, t, hg⟩ := hs.blk
  have hl : g.block < w0.heap.size := (Array.getElem?_eq_some_iff.1 hg).1
  obtain ⟨c1, t1, hg1⟩ := (hs.below hb).blk
  obtain ⟨c2, t2, ha⟩ := he.blk
  obtain ⟨i, hi, hi2⟩ := Option.map_eq_some_iff.1 info238
  obtain ⟨j, hj, hj2⟩ := Option.map_eq_some_iff.1 info240
  have hne : a ≠ g := by rintro rfl; have := he.new; omega
  exact run_eql_iface_ptr_other w Tryz.underlying97 Tryz.underlying238 hi hi2 hj (by simpa using hj2) hne ha hg1

theorem errNew (s : ByteArray) (w : World) : Calls Tryz.prog 160 #[.string s] w fun e w' => ∃ a : Addr, e = .returned (.iface 238 (.pointer (some a))) ∧ ErrAt w w' a ∧ Below w.heap.size w w' := by
  go_enter Tryz.func160, Tryz.ntmps160
  go_wp2
  go_ret
  exact ⟨_, rfl, ⟨Nat.le_refl _, _, _, heap_alloc_new w _⟩, below_alloc (Below.refl _ _) _⟩
theorem ErrAt.mono {w w1 w2 : World} {a : Addr} (h : ErrAt w1 w2 a) (hl : w.heap.size ≤ w1.heap.size) : ErrAt w w2 a := ⟨Nat.le_trans hl h.new, h.blk⟩
theorem ErrAt.below {w w1 w2 : World} {a : Addr} (h : ErrAt w w1 a) (hb : Below w1.heap.size w1 w2) : ErrAt w w2 a := by
  obtain ⟨c, t, hg⟩ := h.blk
  exact ⟨h.new, c, t, by rw [hb.block _ (Array.getElem?_eq_some_iff.1 hg).1]; exact hg⟩

set_option maxRecDepth 100000 in
set_option maxHeartbeats 400000 in
theorem set_empty (s raw : ByteArray) (del : Bool) (w : World) (hsz : s.size ≤ 9223372036854775807) : Calls Tryz.prog 126 #[.string s, .string ⟨#[]⟩, .string raw, .bool false, .bool del, .bool false, .bool false] w
    fun e w' => ∃ (A : Option Addr) (c : Nat) (a : Addr), e = .returned (.tuple #[.slice A s.size c, .iface 238 (.pointer (some a))]) ∧ ReadsInt w' .u8 A s.size (bytesOf s) ∧ ErrAt w w' a ∧ Below w.heap.size w w' := by
  have kb := fun W => print_bytes (P := Tryz.prog) 9 76 5 Tryz.underlying9 Tryz.underlying76 Tryz.underlying5 s W
  go_enter Tryz.func126, Tryz.ntmps126
  go_wp2_with (go_at_call 160; refine (errNew _ _).mono ?_; rintro e w' ⟨a, rfl, ha, hb⟩)
  go_ret2
  have h1 : Below w.heap.size w (Lib.bytesWorld w 5 s) := bytes_below (Below.refl _ _) (Nat.le_refl _) 5 s
  have h2 := h1.size
  exact ⟨_, _, a, rfl, (bytes_reads w 5 s hsz).below hb, ha.mono h2, below_then h1 h2 hb⟩

set_option maxRecDepth 100000 in
theorem rawOpts_empty (s raw : ByteArray) (w : World) (g : Addr) (hs : SjW w g) (hsz : s.size ≤ 9223372036854775807) :
    Calls Tryz.prog 88 #[.string s, .string ⟨#[]⟩, .string raw, .pointer none] w fun e w' => ∃ (v : ByteArray) (a : Addr), e = .returned (.tuple #[.string v, .iface 238 (.pointer (some a))]) ∧ Below w.heap.size w w' := by
  go_enter Tryz.func88, Tryz.ntmps88
  go_wp2_with (go_at_call 126; refine (set_empty _ _ _ _ hsz).mono ?_; rintro e w' ⟨A, c, a, rfl, hr, ha, hb⟩; have hq := eql_other hs hb ha; have hc := (hs.below hb).cell; have hv := string_of_reads (P := Tryz.prog) (src := 76) (dst := 9) (e := 5) (c := c) Tryz.underlying76 Tryz.underlying5 Tryz.underlying9 hr)
  go_ret2
  exact ⟨_, a, rfl, hb⟩
set_option maxRecDepth 100000 in
theorem setRaw_empty (s raw : ByteArray) (w : World) (g : Addr) (hs : SjW w g) (hsz : s.size ≤ 9223372036854775807) :
    Calls Tryz.prog 62 #[.string s, .string ⟨#[]⟩, .string raw] w fun e w' => ∃ (v : ByteArray) (a : Addr), e = .returned (.tuple #[.string v, .iface 238 (.pointer (some a))]) ∧ Below w.heap.size w w' := by
  go_enter Tryz.func62, Tryz.ntmps62
  go_wp2_with (go_at_call 88; refine (rawOpts_empty _ _ _ g hs hsz).mono ?_; rintro e w' ⟨v, a, rfl, hb⟩)
  go_ret2
  exact ⟨_, a, rfl, hb⟩
set_option maxRecDepth 100000 in
theorem sjSetRaw_empty (s raw : ByteArray) (w : World) (g : Addr) (hs : SjW w g) (hsz : s.size ≤ 9223372036854775807) :
    Calls Tryz.prog 37 #[.string s, .string ⟨#[]⟩, .string raw] w fun e w' => e = .returned (.tuple #[.string ⟨#[]⟩, .bool false]) ∧ Below w.heap.size w w' := by
  go_enter Tryz.func37, Tryz.ntmps37
  go_wp2_with (go_at_call 62; refine (setRaw_empty _ _ _ g hs hsz).mono ?_; rintro e w' ⟨v, a, rfl, hb⟩)
  go_ret2
  exact ⟨rfl, hb⟩
theorem strOf_bytes (s : ByteArray) : strOfNums (bytesOf s) = s := by
  apply ByteArray.ext
  apply Array.toList_inj.1
  rw [strOfNums_data, bytesOf, List.map_map]
  conv => rhs; rw [← List.map_id s.data.toList]
  apply List.map_congr_left
  intro b _
  simp
set_option maxRecDepth 100000 in
theorem setBytesOpts_del (s : ByteArray) (A : Option Addr) (c : Nat) (w : World) (g : Addr) (hs : SjW w g) (hsz : s.size ≤ 9223372036854775807) (hr : ReadsInt w .u8 A s.size (bytesOf s)) :
    Calls Tryz.prog 167 #[.slice A s.size c, .string ⟨#[]⟩, .iface 127 (.agg #[]), .pointer none] w fun e w' => ∃ (A : Option Addr) (c : Nat) (a : Addr), e = .returned (.tuple #[.slice A s.size c, .iface 238 (.pointer (some a))]) ∧ ReadsInt w' .u8 A s.size (bytesOf s) ∧ Below w.heap.size w w' := by
  have hv := string_of_reads (P := Tryz.prog) (src := 76) (dst := 9) (e := 5) (c := c) Tryz.underlying76 Tryz.underlying5 Tryz.underlying9 hr
  rw [strOf_bytes] at hv
  have ta : ∀ W : World, (Instr.typeAssert (.iface 127 (.agg #[])) 20 127 true).run Tryz.prog W = .ok (.tuple #[.agg #[], .bool true]) W := fun _ => by kernel_rfl
  have hA := below_alloc (Below.refl w.heap.size w) (.cells #[] 127)
  have hsA := hs.below hA
  go_enter Tryz.func167, Tryz.ntmps167
  go_wp2_with (go_at_call 126; refine (set_empty _ _ _ _ hsz).mono ?_; rintro e w1 ⟨A1, c1, a, rfl, hr1, ha, hb⟩; have hq := eql_other hsA hb ha; have hc := (hsA.below hb).cell)
  go_ret2
  exact ⟨_, _, a, rfl, hr1, below_then hA hA.size hb⟩
set_option maxRecDepth 100000 in
theorem setOpts_del (s : ByteArray) (w : World) (g : Addr) (hs : SjW w g) (hsz : s.size ≤ 9223372036854775807) :
    Calls Tryz.prog 127 #[.string s, .string ⟨#[]⟩, .iface 127 (.agg #[]), .pointer none] w fun e w' => ∃ (v : ByteArray) (a : Addr), e = .returned (.tuple #[.string v, .iface 238 (.pointer (some a))]) ∧ Below w.heap.size w w' := by
  have kb := fun W => print_bytes (P := Tryz.prog) 9 76 5 Tryz.underlying9 Tryz.underlying76 Tryz.underlying5 s W
  have h1 : Below w.heap.size w (Lib.bytesWorld w 5 s) := bytes_below (Below.refl _ _) (Nat.le_refl _) 5 s
  have h2 := bytes_reads w 5 s hsz
  go_enter Tryz.func127, Tryz.ntmps127
  go_wp2_with (go_at_call 167; refine (setBytesOpts_del s _ _ _ g (hs.below h1) hsz h2).mono ?_; rintro e w1 ⟨A1, c1, a, rfl, hr1, hb⟩; have hv := string_of_reads (P := Tryz.prog) (src := 76) (dst := 9) (e := 5) (c := c1) Tryz.underlying76 Tryz.underlying5 Tryz.underlying9 hr1)
  go_ret2
  exact ⟨_, a, rfl, below_then h1 h1.size hb⟩
set_option maxRecDepth 100000 in
theorem set_del (s : ByteArray) (w : World) (g : Addr) (hs : SjW w g) (hsz : s.size ≤ 9223372036854775807) :
    Calls Tryz.prog 89 #[.string s, .string ⟨#[]⟩, .iface 127 (.agg #[])] w fun e w' => ∃ (v : ByteArray) (a : Addr), e = .returned (.tuple #[.string v, .iface 238 (.pointer (some a))]) ∧ Below w.heap.size w w' := by
  go_enter Tryz.func89, Tryz.ntmps89
  go_wp2_with (go_at_call 127; refine (setOpts_del s _ g hs hsz).mono ?_; rintro e w1 ⟨v, a, rfl, hb⟩)
  go_ret2
  exact ⟨_, a, rfl, hb⟩
set_option maxRecDepth 100000 in
theorem delete_empty (s : ByteArray) (w : World) (g : Addr) (hs : SjW w g) (hsz : s.size ≤ 9223372036854775807) :
    Calls Tryz.prog 63 #[.string s, .string ⟨#[]⟩] w fun e w' => ∃ (v : ByteArray) (a : Addr), e = .returned (.tuple #[.string v, .iface 238 (.pointer (some a))]) ∧ Below w.heap.size w w' := by
  go_enter Tryz.func63, Tryz.ntmps63
  go_wp2_with (go_at_call 89; refine (set_del s _ g hs hsz).mono ?_; rintro e w1 ⟨v, a, rfl, hb⟩)
  go_ret2
  exact ⟨_, a, rfl, hb⟩
set_option maxRecDepth 100000 in
theorem sjDelete_empty (s : ByteArray) (w : World) (g : Addr) (hs : SjW w g) (hsz : s.size ≤ 9223372036854775807) :
    Calls Tryz.prog 38 #[.string s, .string ⟨#[]⟩] w fun e w' => e = .returned (.tuple #[.string ⟨#[]⟩, .bool false]) ∧ Below w.heap.size w w' := by
  go_enter Tryz.func38, Tryz.ntmps38
  go_wp2_with (go_at_call 63; refine (delete_empty s _ g hs hsz).mono ?_; rintro e w1 ⟨v, a, rfl, hb⟩)
  go_ret2
  exact ⟨rfl, hb⟩
end Go.Proofs.YtfahmbpppfkcaaaGreatDoor.SjA
