/- The walk of the statement FnRedacted. -/
import Derived.Test.YtphkohpphdcjhaaGreatDoorK13
import Derived.Test.YtphkohpphdcjhaaGreatDoorImplT2
import Derived.Test.YtphkohpphdcjhaaGreatDoorSpecJ
namespace Go.Proofs.YtphkohpphdcjhaaGreatDoor
open Go.RowKit Go.Proofs.YtphkohpphdcjhaaGreatDoorW.PrintWords Go.Proofs.YtphkohpphdcjhaaGreatDoorW.PrintLast
open U (L S)

theorem q_loadC {C : World → Prop} {Q : Act → Prop} {a : Act} {o : Oper} {rest : List Oper} {ops : Array Oper} (g : Nat) (v : V) (hC : ∀ w, C w → IsV w g v) (hw : Region.wanted o (yielded ops a.tmps) = true) (p : Operand) (ho : o.op = .load 23 p) (hx : a.eval p = .pointer (some ⟨g, 0, none⟩))
    (h : wpQuiet Tryz.prog ops C Q rest (a.put o.dst v.val)) : wpQuiet Tryz.prog ops C Q (o :: rest) a :=
  BigFrame.wpQuiet_want hw fun _ hK => ⟨v.val, fun w hc => by
    unfold Oper.quietAt execOp
    simp only [ho, hx, Instr.loadAt, Instr.sureAddr, Sem.run_bind, Sem.run_pure, Result.andThen_ok, run_loadVar_row w g 23 23 v.cells (0, 0) _ (hC w hc) Tryz.underlying23 rfl (by kernel_rfl)]
    exact ⟨rfl, rfl⟩, hK _ h⟩
/-- Two references in their blocks. -/
def Keeps2 (W : World) (g : Nat) (v : V) (g' : Nat) (v' : V) (w : World) : Prop := Keeps W g v w ∧ IsV w g' v'
theorem Keeps2.next {W : World} {g g' : Nat} {v v' : V} {w w' : World} (h : Keeps2 W g v g' v' w) (hb : Below w.heap.size w w') : Keeps2 W g v g' v' w' := ⟨h.1.next hb, h.2.keep hb⟩
theorem Keeps2.drew {W : World} {g g' : Nat} {v v' : V} {w : World} (h : Keeps2 W g v g' v' w) : Keeps2 W g v g' v' { w with drawn := w.drawn + 1 } :=
  h.next ⟨rfl, rfl, rfl, Nat.le_refl _, fun _ _ => rfl⟩
theorem Keeps2.calls {W : World} {g g' : Nat} {v v' : V} {w : World} (hw : Keeps2 W g v g' v' w) {f : FuncId} {args : Array Value} {r : Value}
    (h : Calls Tryz.prog f args w fun e w' => e = .returned r ∧ Below w.heap.size w w') : Calls Tryz.prog f args w fun e w' => e = .returned r ∧ Keeps2 W g v g' v' w' :=
  h.mono fun _ _ ⟨he, hb⟩ => ⟨he, hw.next hb⟩

set_option maxRecDepth 100000 in
set_option maxHeartbeats 6400000 in
theorem walk_FnRedacted (v : V) (W : World) (hv : v.Sm 9223372036854775807) (hT : Tab W) : Calls Tryz.prog 8 #[v.val] W (Yes W) := by
  have hB : Below W.heap.size W (W.alloc (.cells v.cells 23)) := (Below.refl _ _).alloc (Nat.le_refl _) _
  have hI : IsV (W.alloc (.cells v.cells 23)) W.heap.size v := heap_new _ _ _ rfl
  have HV := Lib.hid hv
  have HK : Hid (Keeps W W.heap.size v (W.alloc (.cells v.cells 23))) := Lib.hid ⟨hI, hT.below hB, hB⟩
  clear hB hI hv hT
  go_enter Tryz.func8, Tryz.ntmps8
  go_upto_region 1 with fail
  change Code.wp _ _ _ _ (W.alloc (.cells v.cells 23))
  obtain ⟨W1, hW1⟩ : ∃ x, W.alloc (.cells v.cells 23) = x := ⟨_, rfl⟩
  rw [hW1] at HK ⊢
  clear hW1
  have CF := Lib.hid (c_zzFits v W1 HV.out)
  obtain ⟨g, hg⟩ : ∃ g, W.heap.size = g := ⟨_, rfl⟩
  rw [hg] at HK ⊢
  go_wp2_with (refine wpl_loadV rfl _ rfl _ _ rfl HK.out.1 ?_)
  refine CF.out.mono ?_
  rintro e w2 ⟨b, rfl, hb, b2⟩
  have K2 := Lib.hid (HK.out.next b2)
  have HBS := Lib.hid hb
  clear b2 hb HK CF
  cases b
  · go_wp2_with fail
    go_ret
    subst hg
    exact ⟨rfl, K2.out.2.2⟩
  have HS := Lib.hid (HBS.out rfl)
  clear HBS
  have CS := Lib.hid (c_short v w2 HS.out)
  obtain ⟨sb, HSB⟩ : ∃ b, Hid (shortB v = b) := ⟨_, rfl⟩
  rw [HSB.out] at CS
  go_wp2_with (refine wpl_loadV rfl _ rfl _ _ rfl K2.out.1 ?_)
  refine CS.out.mono ?_
  rintro e w3 ⟨rfl, b3⟩
  have K3 := Lib.hid (K2.out.next b3)
  clear b3 CS K2
  cases sb
  · go_wp2_with fail
    go_ret
    subst hg
    exact ⟨rfl, K3.out.2.2⟩
  have hs := shortB_ok HSB.out
  have hs4 : v.Sm 4000 := hs.1.mono (by decide)
  have HS4 := Lib.hid hs4
  have HFA := Lib.hid hs.2
  clear hs hs4
  go_upto_region 6 with (refine wpl_loadV rfl _ rfl _ _ rfl K3.out.1 ?_)
  have hK4 : Keeps2 W g v w3.heap.size v (w3.alloc (.cells v.cells 23)) := ⟨K3.out.next ((Below.refl _ _).alloc (Nat.le_refl _) _), heap_new _ _ _ rfl⟩
  have hlt : g < w3.heap.size := heap_lt K3.out.1
  have hWg : W.heap.size ≤ w3.heap.size := K3.out.2.2.size
  have hpos : 0 < w3.heap.size := K3.out.2.1.lt
  change Code.wp _ _ _ _ (w3.alloc (.cells v.cells 23))
  obtain ⟨W4, hW4⟩ : ∃ x, w3.alloc (.cells v.cells 23) = x := ⟨_, rfl⟩
  obtain ⟨g3, hg3⟩ : ∃ x, w3.heap.size = x := ⟨_, rfl⟩
  rw [hg3] at hlt hWg hpos ⊢
  rw [hg3, hW4] at hK4
  rw [hW4]
  have K4 := Lib.hid hK4
  have HLT := Lib.hid (show g < g3 ∧ W.heap.size ≤ g3 ∧ 0 < g3 from ⟨hlt, hWg, hpos⟩)
  clear hK4 hW4 hg3 K3 hlt hWg hpos
  have c5 : W4.cell? ⟨g3, 5, none⟩ = some (.bool v.hasPass) := cell_at K4.out.2 rfl
  obtain ⟨hp, HP⟩ : ∃ b, Hid (v.hasPass = b) := ⟨_, rfl⟩
  rw [HP.out] at c5
  go_upto_if 12 with fail
  go_cut [] (fun wx => Hid (Keeps2 W g v g3 (red v) wx))
  case first =>
    cases hp
    · have hr : red v = v := by rw [red, HP.out]; rfl
      go_wp2_with fail
      go_meet
      rw [hr]
      exact K4
    · have hr : red v = { v with pass := xs } := by rw [red, HP.out]; rfl
      have HR := Lib.hid hr
      have f3 := free_at (o := 3) K4.out.2
      have d3 : W4.cell? ⟨g3, 3, none⟩ = some (.string v.pass) := cell_at K4.out.2 rfl
      clear hr
      go_wp2_with fail
      go_meet
      rw [HR.out]
      have ho : Only g3 W4 (W4.setCell ⟨g3, 3, none⟩ (.string xs)) := (Only.refl _ _).setCell _ _
      have hl := HLT.out
      exact Lib.hid ⟨⟨(ho.block _ (heap_lt K4.out.1.1) (by omega)).trans K4.out.1.1, K4.out.1.2.1.only ho (by omega), Only.below K4.out.1.2.2 ho K4.out.1.2.2.size (by omega)⟩, (heap_set K4.out.2 _).trans rfl⟩
  have K5 := hcut
  clear hcut K4 c5 HLT
  obtain ⟨W5, hW5⟩ : ∃ x, wc = x := ⟨_, rfl⟩
  rw [hW5] at K5 ⊢
  clear hW5
  go_upto_region 8 with fail
  have C29 := Lib.hid fun w (hw : Keeps2 W g v g3 (red v) w) => hw.calls (t_redacted v w HS4.out HFA.out hw.1.2.1)
  have C25 := Lib.hid fun w (hw : Keeps2 W g v g3 (red v) w) => hw.calls (c_text w (red v) (red_sm HS4.out))
  have C14 := Lib.hid fun w (hw : Keeps2 W g v g3 (red v) w) => hw.calls (c_alive w hw.1.2.1)
  generalize S (U.text (red v)) = x1 at C29 C25
  refine wp_region_class (Keeps2 W g v g3 (red v)) (by kernel_rfl) K5.out.drew ?_
  (repeat (first | go_big_quiet_skip | (refine q_loadC g v (fun _ h => h.1.1) rfl _ rfl rfl ?_; simp only [Act.put, List.setIfInBounds_toArray, List.set_cons_succ, List.set_cons_zero]) | (refine q_loadC g3 (red v) (fun _ h => h.2) rfl _ rfl rfl ?_; simp only [Act.put, List.setIfInBounds_toArray, List.set_cons_succ, List.set_cons_zero]) | (go_big_quiet_want; go_big_quiet_op; first | go_big_quiet_on | (refine ⟨_, fun _ _ => rfl, ?_⟩; go_big_quiet_on) | go_big_quiet_call (first | exact C29.out _ | exact C25.out _ | exact C14.out _))))
  refine wpQuiet_nil ?_
  intro w9 k9
  have K9 := Lib.hid k9
  clear k9
  go_wp2_with fail
  go_ret
  subst hg
  exact ⟨rfl, K9.out.1.2.2⟩
end Go.Proofs.YtphkohpphdcjhaaGreatDoor
