/- The walk of the statement FnResolve. -/
import Derived.Test.YtphkohpphdcjhaaGreatDoorK13
import Derived.Test.YtphkohpphdcjhaaGreatDoorKeep2
import Derived.Test.YtphkohpphdcjhaaGreatDoorImplW
namespace Go.Proofs.YtphkohpphdcjhaaGreatDoor
open Go.RowKit Go.Proofs.YtphkohpphdcjhaaGreatDoorW.PrintWords Go.Proofs.YtphkohpphdcjhaaGreatDoorW.PrintLast
open U (L S)

theorem guardE23 (x y : Operand) (v u : V) (w : World) : (eqGuard .eql 23 x y v.val u.val).run Tryz.prog w = .ok () w := by
  have h : Tryz.prog.eqGuardType Tryz.prog.depth 23 = false := by kernel_rfl
  unfold eqGuard
  simp [go_sem, h]
theorem q_eqlV {C : World → Prop} {Q : Act → Prop} {a : Act} {o : Oper} {rest : List Oper} {ops : Array Oper} (hw : Region.wanted o (yielded ops a.tmps) = true) (x y : Operand) (ho : o.op = .binOp .eql 23 x y 23)
    (v u : V) (c : Bool) (hx : a.eval x = v.val) (hy : a.eval y = u.val) (hc : eqV v u = c) (h : wpQuiet Tryz.prog ops C Q rest (a.put o.dst (.bool c))) : wpQuiet Tryz.prog ops C Q (o :: rest) a :=
  BigFrame.wpQuiet_want hw fun _ hK => ⟨.bool c, fun w _ => by
    have := run_eql23 v u w
    rw [hc] at this
    unfold Oper.quietAt execOp
    simp only [ho, hx, hy, Sem.run_bind, Sem.run_pure, guardE23, Result.andThen_ok, this]
    exact ⟨rfl, rfl⟩, hK _ h⟩
set_option maxRecDepth 100000 in
set_option maxHeartbeats 6400000 in
theorem walk_FnResolve (v r : V) (W : World) (hv : v.Sm 9223372036854775807) (hr : r.Sm 9223372036854775807) (hT : Tab W) : Calls Tryz.prog 7 #[v.val, r.val] W (Yes W) := by
  have hB : Below W.heap.size W ((W.alloc (.cells v.cells 23)).alloc (.cells r.cells 23)) := ((Below.refl _ _).alloc (Nat.le_refl _) _).alloc (by simp) _
  have hI : IsV ((W.alloc (.cells v.cells 23)).alloc (.cells r.cells 23)) W.heap.size v := (Below.heap_alloc _ _ _ (by simp)).trans (heap_new _ _ _ rfl)
  have hJ : IsV ((W.alloc (.cells v.cells 23)).alloc (.cells r.cells 23)) (W.heap.size + 1) r := heap_new _ _ _ (by simp)
  have HV := Lib.hid hv
  have HR := Lib.hid hr
  have HK : Hid (Keeps2 W W.heap.size v (W.heap.size + 1) r ((W.alloc (.cells v.cells 23)).alloc (.cells r.cells 23))) := Lib.hid ⟨⟨hI, hT.below hB, hB⟩, hJ⟩
  clear hB hI hJ hv hr hT
  go_enter Tryz.func7, Tryz.ntmps7
  go_upto_region 1 with fail
  change Code.wp _ _ _ _ ((W.alloc (.cells v.cells 23)).alloc (.cells r.cells 23))
  obtain ⟨W1, hW1⟩ : ∃ x, (W.alloc (.cells v.cells 23)).alloc (.cells r.cells 23) = x := ⟨_, rfl⟩
  rw [hW1] at HK ⊢
  clear hW1
  have CF := Lib.hid (c_zzFits v W1 HV.out)
  obtain ⟨g', hg'⟩ : ∃ g, W.heap.size + 1 = g := ⟨_, rfl⟩
  obtain ⟨g, hg⟩ : ∃ g, W.heap.size = g := ⟨_, rfl⟩
  have K1 : Hid (Keeps2 W g v g' r W1) := by rw [← hg', ← hg]; exact HK
  rw [hg', hg]
  have HG := Lib.hid hg
  clear hg' HK hg
  go_wp2_with (refine wpl_loadV rfl _ rfl _ _ rfl K1.out.1.1 ?_)
  refine CF.out.mono ?_
  rintro e w2 ⟨b, rfl, hb, b2⟩
  have K2 := Lib.hid (K1.out.next b2)
  have HBS := Lib.hid hb
  clear b2 hb K1 CF
  cases b
  · go_wp2_with fail
    go_ret
    exact ⟨rfl, K2.out.1.2.2⟩
  have HS := Lib.hid (HBS.out rfl)
  clear HBS
  have CF := Lib.hid (c_zzFits r w2 HR.out)
  go_wp2_with (refine wpl_loadVg (wanted_on rfl rfl rfl rfl) _ rfl _ _ rfl K2.out.2 ?_)
  refine CF.out.mono ?_
  rintro e w3 ⟨b, rfl, hb, b3⟩
  have K3 := Lib.hid (K2.out.next b3)
  have HBS := Lib.hid hb
  clear b3 hb K2 CF
  cases b
  · go_wp2_with fail
    go_ret
    exact ⟨rfl, K3.out.1.2.2⟩
  have HS2 := Lib.hid (HBS.out rfl)
  clear HBS
  go_upto_region 3 with fail
  have C17 : Hid (∀ w, Keeps2 W g v g' r w → Calls Tryz.prog 17 #[v.val] w fun e w' => e = .returned (.bool (shortB v)) ∧ Keeps2 W g v g' r w') :=
    Lib.hid fun w hw => hw.calls (c_short v w HS.out)
  have C17r : Hid (∀ w, Keeps2 W g v g' r w → Calls Tryz.prog 17 #[r.val] w fun e w' => e = .returned (.bool (shortB r)) ∧ Keeps2 W g v g' r w') :=
    Lib.hid fun w hw => hw.calls (c_short r w HS2.out)
  obtain ⟨sb, HSB⟩ : ∃ b, Hid (shortB v = b) := ⟨_, rfl⟩
  obtain ⟨sr, HSR⟩ : ∃ b, Hid (shortB r = b) := ⟨_, rfl⟩
  rw [HSB.out] at C17
  rw [HSR.out] at C17r
  cases sb
  · as_aux_lemma =>
    refine wp_region_class (Keeps2 W g v g' r) (by kernel_rfl) K3.out.drew ?_
    (repeat (first | go_big_quiet_skip | (refine q_loadC g v (fun _ h => h.1.1) rfl _ rfl rfl ?_; simp only [Act.put, List.setIfInBounds_toArray, List.set_cons_succ, List.set_cons_zero]) | (refine q_loadC g' r (fun _ h => h.2) rfl _ rfl rfl ?_; simp only [Act.put, List.setIfInBounds_toArray, List.set_cons_succ, List.set_cons_zero]) | (go_big_quiet_want; go_big_quiet_op; first | go_big_quiet_on | (refine ⟨_, fun _ _ => rfl, ?_⟩; go_big_quiet_on) | go_big_quiet_call (first | with_reducible exact C17.out _ | with_reducible exact C17r.out _))))
    refine wpQuiet_nil ?_
    intro w9 k9
    have K9 := Lib.hid k9
    clear k9
    go_wp2_with fail
    go_ret
    exact ⟨rfl, K9.out.1.2.2⟩
  · cases sr
    · as_aux_lemma =>
      refine wp_region_class (Keeps2 W g v g' r) (by kernel_rfl) K3.out.drew ?_
      (repeat (first | go_big_quiet_skip | (refine q_loadC g v (fun _ h => h.1.1) rfl _ rfl rfl ?_; simp only [Act.put, List.setIfInBounds_toArray, List.set_cons_succ, List.set_cons_zero]) | (refine q_loadC g' r (fun _ h => h.2) rfl _ rfl rfl ?_; simp only [Act.put, List.setIfInBounds_toArray, List.set_cons_succ, List.set_cons_zero]) | (go_big_quiet_want; go_big_quiet_op; first | go_big_quiet_on | (refine ⟨_, fun _ _ => rfl, ?_⟩; go_big_quiet_on) | go_big_quiet_call (first | with_reducible exact C17.out _ | with_reducible exact C17r.out _))))
      refine wpQuiet_nil ?_
      intro w9 k9
      have K9 := Lib.hid k9
      clear k9
      go_wp2_with fail
      go_ret
      exact ⟨rfl, K9.out.1.2.2⟩
    · as_aux_lemma =>
      have hs := shortB_ok HSB.out
      have hs' := shortB_ok HSR.out
      have hs4 : v.Sm 4000 := hs.1.mono (by decide)
      have hr4 : r.Sm 4000 := hs'.1.mono (by decide)
      have C27 := Lib.hid fun w (hw : Keeps2 W g v g' r w) => hw.calls (t_resolve w v r hs4 hr4 hs.2 hs'.2 hw.1.2.1)
      have C28 := Lib.hid fun w (hw : Keeps2 W g v g' r w) => hw.calls (c_Resolve w v r hs4 hr4)
      have C14 := Lib.hid fun w (hw : Keeps2 W g v g' r w) => hw.calls (c_alive w hw.1.2.1)
      generalize U.resolve v r = x1 at C27 C28
      clear hs hs' hs4 hr4
      refine wp_region_class (Keeps2 W g v g' r) (by kernel_rfl) K3.out.drew ?_
      (repeat (first | go_big_quiet_skip | (refine q_eqlV rfl _ _ rfl x1 x1 true rfl rfl (eqV_same x1) ?_; simp only [Act.put, List.setIfInBounds_toArray, List.set_cons_succ, List.set_cons_zero]) | (refine q_loadC g v (fun _ h => h.1.1) rfl _ rfl rfl ?_; simp only [Act.put, List.setIfInBounds_toArray, List.set_cons_succ, List.set_cons_zero]) | (refine q_loadC g' r (fun _ h => h.2) rfl _ rfl rfl ?_; simp only [Act.put, List.setIfInBounds_toArray, List.set_cons_succ, List.set_cons_zero]) | (go_big_quiet_want; go_big_quiet_op; first | go_big_quiet_on | (refine ⟨_, fun _ _ => rfl, ?_⟩; go_big_quiet_on) | go_big_quiet_call (first | with_reducible exact C17.out _ | with_reducible exact C17r.out _ | with_reducible exact C27.out _ | with_reducible exact C28.out _ | with_reducible exact C14.out _))))
      refine wpQuiet_nil ?_
      intro w9 k9
      have K9 := Lib.hid k9
      clear k9
      go_wp2_with fail
      go_ret
      exact ⟨rfl, K9.out.1.2.2⟩
end Go.Proofs.YtphkohpphdcjhaaGreatDoor
