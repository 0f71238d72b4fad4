/- Two references in their blocks, through a region in whatever order. -/
import Derived.Test.YtphkohpphdcjhaaGreatDoorK13
namespace Go.Proofs.YtphkohpphdcjhaaGreatDoor
open Go.RowKit Go.Proofs.YtphkohpphdcjhaaGreatDoorW.PrintWords Go.Proofs.YtphkohpphdcjhaaGreatDoorW.PrintLast
open U (L S)

theorem q_loadC {C : World → Prop} {Q : Act → Prop} {a : Act} {o : Oper} {rest : List Oper} {ops : Array Oper} (g : Nat) (v : V) (hC : ∀ w, C w → IsV w g v) (hw : Region.wanted o (yielded ops a.tmps) = true) (p : Operand) (ho : o.op = .load 23 p) (hx : a.eval p = .pointer (some ⟨g, 0, none⟩))
    (h : wpQuiet Tryz.prog ops C Q rest (a.put o.dst v.val)) : wpQuiet Tryz.prog ops C Q (o :: rest) a :=
  BigFrame.wpQuiet_want hw fun _ hK => ⟨v.val, fun w hc => by
    unfold Oper.quietAt execOp
    simp only [ho, hx, Instr.loadAt, Instr.sureAddr, Sem.run_bind, Sem.run_pure, Result.andThen_ok, run_loadVar_row w g 23 23 v.cells (0, 0) _ (hC w hc) Tryz.underlying23 rfl (by kernel_rfl)]
    exact ⟨rfl, rfl⟩, hK _ h⟩
/-- Two references in their blocks. -/
def Keeps2 (W : World) (g : Nat) (v : V) (g' : Nat) (v' : V) (w : World) : Prop := Keeps W g v w ∧ IsV w g' v'
theorem Keeps2.next {W : World} {g g' : Nat} {v v' : V} {w w' : World} (h : Keeps2 W g v g' v' w) (hb : Below w.heap.size w w') : Keeps2 W g v g' v' w' := ⟨h.1.next hb, h.2.keep hb⟩
theorem Keeps2.drew {W : World} {g g' : Nat} {v v' : V} {w : World} (h : Keeps2 W g v g' v' w) : Keeps2 W g v g' v' { w with drawn := w.drawn + 1 } :=
  h.next ⟨rfl, rfl, rfl, Nat.le_refl _, fun _ _ => rfl⟩
theorem Keeps2.calls {W : World} {g g' : Nat} {v v' : V} {w : World} (hw : Keeps2 W g v g' v' w) {f : FuncId} {args : Array Value} {r : Value}
    (h : Calls Tryz.prog f args w fun e w' => e = .returned r ∧ Below w.heap.size w w') : Calls Tryz.prog f args w fun e w' => e = .returned r ∧ Keeps2 W g v g' v' w' :=
  h.mono fun _ _ ⟨he, hb⟩ => ⟨he, hw.next hb⟩

end Go.Proofs.YtphkohpphdcjhaaGreatDoor
