/- A whole reference of the package loaded. -/
import Derived.Test.YtphkohpphdcjhaaGreatDoorTK11
namespace Go.Proofs.YtphkohpphdcjhaaGreatDoor
open Go.RowKit Go.Proofs.YtphkohpphdcjhaaGreatDoorW.PrintWords Go.Proofs.YtphkohpphdcjhaaGreatDoorW.PrintLast
open U (L S)

/-- A whole reference of the package loaded. -/
theorem wpl_loadU {ops : Array Oper} {rest : List Oper} {o : Oper} {a : Act} {w : World} {Q : Exit → Act → World → Prop} (hgd : o.guard = none) (p : Operand) (ho : o.op = .load 80 p)
    (g : Nat) (v : V) (u : Value) (hx : a.eval p = .pointer (some ⟨g, 0, none⟩)) (hI : w.heap[g]? = some (.cells (v.ucells u) 80 (0, 0))) (h : wpList Tryz.prog ops Q rest (a.put o.dst (.agg (v.ucells u))) w) : wpList Tryz.prog ops Q (o :: rest) a w :=
  wpList_load_row hgd 80 p ho g hx 80 (v.ucells u) (0, 0) _ hI Tryz.underlying80 rfl (by kernel_rfl) h
/-- A whole reference of the package stored. -/
theorem wpl_storeU {ops : Array Oper} {rest : List Oper} {o : Oper} {a : Act} {w : World} {Q : Exit → Act → World → Prop} (hgd : o.guard = none) (p x : Operand) (ho : o.op = .store 80 p x)
    (g : Nat) (v : V) (u : Value) (old : Array Value) (hx : a.eval p = .pointer (some ⟨g, 0, none⟩)) (hy : a.eval x = .agg (v.ucells u)) (hI : w.heap[g]? = some (.cells old 80 (0, 0))) (hs : old.size = 11) (hu : u.oneCell' = true)
    (h : ∀ w', w'.heap[g]? = some (.cells (v.ucells u) 80 (0, 0)) → Only g w w' → wpList Tryz.prog ops Q rest (a.put o.dst undef) w') : wpList Tryz.prog ops Q (o :: rest) a w := by
  refine wpList_store_row hgd 80 p x ho g (v.ucells u) hx hy 80 old hI (by kernel_rfl) hs (by simp [V.ucells, hu, show ∀ s, (Value.string s).oneCell' = true from fun _ => rfl, show ∀ b, (Value.bool b).oneCell' = true from fun _ => rfl]) (h _ ?_ (setRow_only _))
  exact setRow_heap w g _ _ 80 (0, 0) hI
theorem new_below {W w : World} {o : Obj} (ho : Only W.heap.size (W.alloc o) w) : Below W.heap.size W w :=
  Only.below ((Below.refl _ _).alloc (Nat.le_refl _) _) ho (by simp) (Nat.le_refl _)
end Go.Proofs.YtphkohpphdcjhaaGreatDoor
