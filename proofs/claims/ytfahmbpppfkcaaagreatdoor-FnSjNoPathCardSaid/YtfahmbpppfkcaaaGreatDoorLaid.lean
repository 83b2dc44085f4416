/- What the listed package-level variables give the walks. -/
import Derived.Test.YtfahmbpppfkcaaaGreatDoorRows
import Derived.Test.YtfahmbpppfkcaaaGreatDoorSjA
import Derived.ProofKit
import Derived.OpenShut
import Derived.LaidMore
import Derived.LaidSub
import Derived.Stop.Joined
namespace Go.Proofs.YtfahmbpppfkcaaaGreatDoor.Laid
open Go.ChangeShapes Go.WideShapes Go.ChangeAt Go.RowKit

theorem own : ownKnob Tryz.prog.godebug = none := by kernel_rfl
theorem star : "*" ++ "errors.errorString" = "*errors.errorString" := by decide
theorem row238 (u : TypeId) (h : Tryz.prog.typeName? 3 u = some "*errors.errorString") : u = 238 :=
  typeName_ptr_named (nm := "errors.errorString") (by rw [star]; kernel_rfl) (by kernel_rfl) (by decide) u (by rw [star]; exact h)
theorem cells240 : Tryz.prog.cellsOf 240 = 1 := by kernel_rfl
theorem cells9 : Tryz.prog.cellsOf 9 = 1 := by kernel_rfl

set_option maxRecDepth 100000 in
theorem sentinel {W : World} {name : String} {gi : Nat} {text : List UInt8} (hg : Tryz.prog.globalNamed name = some gi) (ht : (Tryz.prog.globals[gi]?).map (·.type) = some 97)
    (h : laidMet Tryz.prog [(name, .iface "*errors.errorString" (.ptr (.agg [.lit (.string text)])))] W) :
    ∃ a c t, W.cell? ⟨gi, 0, none⟩ = some (.iface 238 (.pointer (some a))) ∧ W.heap[a.block]? = some (.cells c t (0, 0)) := by
  obtain ⟨ps, ⟨g0, t0, cs0, f0, p0, q0, hg0, ht0, hv0, hd0, e1, e0⟩, hnd, hrows⟩ := h
  obtain rfl := Option.some.inj (hg.symm.trans hg0)
  obtain rfl := Option.some.inj (ht.symm.trans ht0)
  have hq : q0 = [] := e1
  subst hq
  subst e0
  obtain ⟨l0⟩ := cs0
  have ok0 : ∀ u v, l0 = [.iface u v] → Value.okWide Tryz.prog W .any 0 u v := fun u v e => by
    subst e
    exact (hrows gi 0 (by simp [MemPlace.row])).2 u v (by simpa using World.var?_cell hg0 hv0 0)
  obtain ⟨a0, s0, rfl, hc0, hs0, hz0, rfl⟩ := errorString_of_trod Tryz.underlying97 row238 Tryz.underlying238 Tryz.underlying240 rfl rfl Tryz.underlying9 cells240 cells9 hd0 ok0
  obtain ⟨c0, t0, hb0⟩ := (hrows a0.block a0.off (by simp [MemPlace.row])).1
  exact ⟨a0, c0, t0, by simpa using World.var?_cell hg0 hv0 0, hb0⟩

theorem g_errNoChange : Tryz.prog.globalNamed "pub-tetrapla/pub/sjson.errNoChange" = some 1 := by kernel_rfl
theorem t_errNoChange : (Tryz.prog.globals[1]?).map (·.type) = some 97 := by kernel_rfl
set_option maxRecDepth 100000 in
theorem sjW {W : World} (h : laidMetH Tryz.prog Rows.fnSjNoPathRow.laid W) : ∃ g, SjA.SjW W g := by
  have h1 := h.filter fun x => x.1 == "pub-tetrapla/pub/sjson.errNoChange"
  have e : (Rows.fnSjNoPathRow.laid.filter fun x => x.1 == "pub-tetrapla/pub/sjson.errNoChange") = [("pub-tetrapla/pub/sjson.errNoChange", Rows.laid_pub_tetrapla_pub_sjson_errNoChange)] := by kernel_rfl
  rw [e] at h1
  have h2 : laidMet Tryz.prog [("pub-tetrapla/pub/sjson.errNoChange", Rows.laid_pub_tetrapla_pub_sjson_errNoChange)] W := h1
  obtain ⟨a, c, t, hc, hb⟩ := sentinel g_errNoChange t_errNoChange h2
  exact ⟨a, hc, c, t, hb⟩
end Go.Proofs.YtfahmbpppfkcaaaGreatDoor.Laid
