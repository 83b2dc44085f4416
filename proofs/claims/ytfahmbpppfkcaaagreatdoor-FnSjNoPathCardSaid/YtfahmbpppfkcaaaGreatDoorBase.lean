/- Small words that all the walks of this seat share. -/
import Derived.Test.YtfahmbpppfkcaaaGreatDoorProg
import Derived.Test.YtfahmbpppfkcaaaGreatDoorWWords
import Derived.OrdersHeld
import Derived.Laws.BitsLemmas
import Derived.LaidEql
import Derived.WalkLawsBesides
import Derived.WalkSpells
import Derived.LoopN
namespace Go.Proofs.YtfahmbpppfkcaaaGreatDoor.Base
open Go.RowKit Go.Proofs.YtfahmbpppfkcaaaGreatDoorW.PrintWords
set_option linter.unusedVariables false
theorem info5 : (Tryz.prog.info? 5).map (fun i => (i.zero, i.size, i.bytes)) = some (some (.int .u8 0), 1, 1) := by kernel_rfl
theorem run_store_float {P : Program} {w : World} {a : Addr} {m : Mode} (k : FloatKind) (x : Nat) : (store a (.float k x) m).run P w = stored P w a (.float k x) m := run_store P w a _ m rfl

theorem bcell {W w1 : World} (hb : Below W.heap.size W w1) : (∀ b o, b < W.heap.size → w1.cell? ⟨b, o, none⟩ = W.cell? ⟨b, o, none⟩) ∧ (∀ b o, b < W.heap.size → w1.frozen? ⟨b, o, none⟩ = W.frozen? ⟨b, o, none⟩) :=
  ⟨fun b o h => hb.cell (p := ⟨b, o, none⟩) h, fun b o h => hb.frozen (p := ⟨b, o, none⟩) h⟩
/-- v owns the bytes xs; nothing of w0 has turned. -/
structure Ob (w0 W : World) (v : Value) (xs : List Int) : Prop where
  own : W.ownsRow w0.heap.size 5 1 v xs.length (nums .u8 xs)
  bel : Below w0.heap.size w0 W
theorem Ob.nil (w : World) : Ob w w (.slice none 0 0) [] := ⟨own_nil _ _ _ _, Below.refl _ _⟩
theorem Ob.nil' {w0 W : World} (h : Below w0.heap.size w0 W) : Ob w0 W (.slice none 0 0) [] := ⟨own_nil _ _ _ _, h⟩
theorem Ob.below {w0 W W1 : World} {v : Value} {xs : List Int} (h : Ob w0 W v xs) (hb : Below W.heap.size W W1) : Ob w0 W1 v xs := ⟨pw_own_below h.own hb, below_then h.bel h.bel.size hb⟩
theorem Ob.alloc {w0 W : World} {v : Value} {xs : List Int} (h : Ob w0 W v xs) (o : Obj) : Ob w0 (W.alloc o) v xs := h.below (below_alloc (Below.refl _ _) o)
theorem Ob.drew {w0 W : World} {v : Value} {xs : List Int} (h : Ob w0 W v xs) : Ob w0 W.drew v xs := h.below (below_drew (Below.refl _ _))
theorem Ob.drewN {w0 W : World} {v : Value} {xs : List Int} (h : Ob w0 W v xs) (n : Nat) : Ob w0 (W.drewN n) v xs := h.below (pw_below_drewN (Below.refl _ _) n)
theorem Ob.weaken {w0 w1 W : World} {v : Value} {xs : List Int} (h : Ob w1 W v xs) (hb : Below w0.heap.size w0 w1) : Ob w0 W v xs := ⟨own_weaken h.own hb.size, below_then hb hb.size h.bel⟩
/-- The slice that is owned: its form, and that it reads. -/
theorem Ob.reads {w0 W : World} {v : Value} {xs : List Int} (h : Ob w0 W v xs) : ∃ A c, v = .slice A xs.length c ∧ ReadsInt W .u8 A xs.length xs := own_reads h.own
theorem Ob.str {w0 W : World} {v : Value} {xs : List Int} (h : Ob w0 W v xs) : (convert 76 9 v).run Tryz.prog W = .ok (.string (strOfNums xs)) W :=
  own_string Tryz.underlying76 Tryz.underlying5 Tryz.underlying9 h.own
section
variable {ops : Array Oper} {rest : List Oper} {o : Oper} {a : Act} {Q : Exit → Act → World → Prop}
theorem ob_app1 {w0 W : World} {s x : Operand} {v : Value} {xs : List Int} {y : Int} (hgd : o.guard = none)
    (ho : o.op = .call { callee := .builtin .append, args := #[s, x], argTypes := #[76, 76] }) (hs : a.eval s = v) (hx : a.eval x = .slice (some ⟨W.heap.size, 0, none⟩) 1 1)
    (HO : Ob w0 W v xs) (hl : xs.length + 1 ≤ 140737488355328)
    (h : ∀ v1 w1, Ob w0 w1 v1 (xs ++ [y]) → wpList Tryz.prog ops Q rest (a.put o.dst v1) w1) :
    wpList Tryz.prog ops Q (o :: rest) a (W.alloc (.cells #[.int .u8 y] 5)) :=
  print_append_num w0.heap.size hgd s x 76 5 .u8 1 ho Tryz.underlying76 info5 (by omega) v xs y hs hx HO.own HO.bel HO.bel.size (by omega) (fun v1 w1 hown hb _ _ => h v1 w1 ⟨hown, hb⟩)
theorem ob_appS {w0 W : World} {s x : Operand} {v : Value} {xs : List Int} {y : ByteArray} (hgd : o.guard = none)
    (ho : o.op = .call { callee := .builtin .append, args := #[s, x], argTypes := #[76, 9] }) (hs : a.eval s = v) (hx : a.eval x = .string y)
    (HO : Ob w0 W v xs) (hl : xs.length + y.size ≤ 140737488355328)
    (h : ∀ v1 w1, Ob w0 w1 v1 (xs ++ bytesOf y) → wpList Tryz.prog ops Q rest (a.put o.dst v1) w1) :
    wpList Tryz.prog ops Q (o :: rest) a W :=
  print_append_str w0.heap.size hgd s x 76 9 5 ho Tryz.underlying76 Tryz.underlying9 info5 v xs y hs hx HO.own HO.bel HO.bel.size hl (fun v1 w1 hown hb _ => h v1 w1 ⟨hown, hb⟩)
end
end Go.Proofs.YtfahmbpppfkcaaaGreatDoor.Base
