/- Regions in whatever order whose calls make memory or write: one operation at a time. -/
import Derived.Test.YtphkohpphdcjhaaGreatDoorTK13
import Derived.Deep.RegionHeld3
namespace Go.Proofs.YtphkohpphdcjhaaGreatDoor
open Go.RowKit Go.Proofs.YtphkohpphdcjhaaGreatDoorW.PrintWords Go.Proofs.YtphkohpphdcjhaaGreatDoorW.PrintLast
open U (L S)
section
variable {ops : Array Oper} {Q : Exit → Act → World → Prop} {C : World → Prop} {a : Act} {w : World}
theorem yl_loadV {o : Oper} (hw : Region.wanted o (yielded ops a.tmps) = true) (p : Operand) (ho : o.op = .load 23 p) (g : Nat) (v : V) (hx : a.eval p = .pointer (some ⟨g, 0, none⟩)) (hS : ∀ w, C w → IsV w g v) :
    YieldsIf Tryz.prog ops C o v.val a := .inl ⟨hw, fun w hc => by
    unfold execOp
    simp only [ho, hx, Instr.loadAt, Instr.sureAddr, Sem.run_bind, Sem.run_pure, Result.andThen_ok, run_loadVar_row w g 23 23 v.cells (0, 0) _ (hS w hc) Tryz.underlying23 rfl (by kernel_rfl)]⟩
theorem wpOp_call {i : Nat} {o : Oper} {K : Act → World → Prop} {f : FuncId} {args : Array Value} (hi : ops[i]? = some o) (hw : Region.wanted o (yielded ops a.tmps) = true)
    (he : (execOp a.eval o).run Tryz.prog w = .ok (.enter f args) w) (h : Calls Tryz.prog f args w fun e w' => ∃ r, e = .returned r ∧ K (a.put o.dst r) w') : wpOp Tryz.prog ops Q i K a w := by
  refine wpOp_step hi (fun K' hK => ?_)
  rw [if_pos hw]
  unfold Oper.wp
  rw [he]
  show Calls _ _ _ _ _
  refine h.mono ?_
  rintro e w' ⟨r, rfl, hk⟩
  exact hK _ _ hk
theorem run_callF {o : Oper} (f : FuncId) (xs : Array Operand) (tys : Array TypeId) (fn : Func) (hf : Tryz.prog.funcs[f]? = some fn) (hn : (fn.name == "runtime.NumGoroutine") = false) (hb : fn.body.isNone = false)
    (hop : o.op = .call { callee := .value (.func f), args := xs, argTypes := tys }) (a : Act) (w : World) : (execOp a.eval o).run Tryz.prog w = .ok (.enter f (xs.map a.eval)) w := by
  have h : (callFunc f (xs.map a.eval)).run Tryz.prog w = .ok (.enter f (xs.map a.eval)) w := by
    unfold callFunc
    simp [go_sem, hf]
    rw [if_neg (by simpa using hn), if_neg (by intro e; rw [e] at hb; cases hb)]
  unfold execOp
  simp [hop, resolve, invoke, Act.eval, go_sem]
  exact h
theorem wpOp_callF {i : Nat} {o : Oper} {K : Act → World → Prop} (f : FuncId) (l : List Operand) (tys : Array TypeId) (args : List Value) (fn : Func) (hf : Tryz.prog.funcs[f]? = some fn) (hn : (fn.name == "runtime.NumGoroutine") = false) (hb : fn.body.isNone = false)
    (hi : ops[i]? = some o) (hw : Region.wanted o (yielded ops a.tmps) = true) (hop : o.op = .call { callee := .value (.func f), args := l.toArray, argTypes := tys }) (ha : l.map a.eval = args)
    (h : Calls Tryz.prog f args.toArray w fun e w' => ∃ r, e = .returned r ∧ K (a.put o.dst r) w') : wpOp Tryz.prog ops Q i K a w := by
  subst ha
  refine wpOp_call hi hw (run_callF f l.toArray tys fn hf hn hb hop a w) ?_
  rw [List.map_toArray]
  exact h
theorem wpOp_storeV {i : Nat} {o : Oper} {K : Act → World → Prop} (hi : ops[i]? = some o) (hw : Region.wanted o (yielded ops a.tmps) = true) (p x : Operand) (ho : o.op = .store 23 p x)
    (g : Nat) (v0 v : V) (hx : a.eval p = .pointer (some ⟨g, 0, none⟩)) (hy : a.eval x = v.val) (hI : IsV w g v0)
    (h : ∀ w', IsV w' g v → Only g w w' → K (a.put o.dst undef) w') : wpOp Tryz.prog ops Q i K a w := by
  refine wpOp_step hi (fun K' hK => ?_)
  rw [if_pos hw]
  exact wp_store_row 23 p x ho g v.cells hx hy 23 v0.cells hI (by kernel_rfl) rfl (by simp [V.cells, Value.oneCell']) (hK _ _ (h _ (setRow_heap w g _ _ 23 (0, 0) hI) (setRow_only _)))
theorem anyH_one {i : Nat} {fuel : Nat} {listed : Array Bool} (hr : Region.ready .any ops listed = [i]) (h : wpOp Tryz.prog ops Q i (fun a' w' => C w' ∧ wpAnyH Tryz.prog .any ops Q C fuel (listed.setIfInBounds i true) a' w') a w) :
    wpAnyH Tryz.prog .any ops Q C (fuel + 1) listed a w := wpAnyH_all hr (by simp) (fun j hj => by rw [List.mem_singleton.1 hj]; exact h)
theorem anyH_two {i j : Nat} {fuel : Nat} {listed : Array Bool} (hr : Region.ready .any ops listed = [i, j]) (h : wpOp Tryz.prog ops Q i (fun a' w' => C w' ∧ wpAnyH Tryz.prog .any ops Q C fuel (listed.setIfInBounds i true) a' w') a w)
    (k : wpOp Tryz.prog ops Q j (fun a' w' => C w' ∧ wpAnyH Tryz.prog .any ops Q C fuel (listed.setIfInBounds j true) a' w') a w) :
    wpAnyH Tryz.prog .any ops Q C (fuel + 1) listed a w := wpAnyH_all hr (by simp) (fun x hx => by
  rcases List.mem_cons.1 hx with rfl | hx
  · exact h
  · rw [List.mem_singleton.1 hx]; exact k)
end
end Go.Proofs.YtphkohpphdcjhaaGreatDoor
