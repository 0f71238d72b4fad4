/- The walk of the thin Resolve. -/
import Derived.Test.YtphkohpphdcjhaaGreatDoorImplV
set_option linter.unusedSimpArgs false
set_option linter.unusedVariables false
namespace Go.Proofs.YtphkohpphdcjhaaGreatDoor
open Go.RowKit Go.Proofs.YtphkohpphdcjhaaGreatDoorW.PrintWords Go.Proofs.YtphkohpphdcjhaaGreatDoorW.PrintLast
open U (L S)

theorem noHost_fair (v : V) : (U.noHost v).fair := ⟨fun _ => ⟨rfl, rfl⟩, fun _ => rfl⟩
theorem resolve_fair {b r : V} (hb : b.fair) (hr : r.fair) : (U.resolve b r).fair := by
  rw [resolve_is b r _ _ _ _ _ _ rfl rfl rfl rfl rfl rfl]
  split
  · refine U.setPath_fair ?_ _
    exact hr
  · split
    · exact noHost_fair _
    · split
      · exact noHost_fair _
      · refine U.setPath_fair ?_ _
        exact hb
section
variable {ops : Array Oper} {Q : Exit → Act → World → Prop} {a : Act} {w : World}
theorem wpOp_callD {i : Nat} {o : Oper} {K : Act → World → Prop} (f : FuncId) (l : List Operand) (tys : Array TypeId) (args : List Value) (fn : Func) (d : Option Tmp) (hf : Tryz.prog.funcs[f]? = some fn) (hn : (fn.name == "runtime.NumGoroutine") = false) (hb : fn.body.isNone = false)
    (hi : ops[i]? = some o) (hw : Region.wanted o (yielded ops a.tmps) = true) (hop : o.op = .call { callee := .value (.func f), args := l.toArray, argTypes := tys }) (hd : o.dst = d) (ha : l.map a.eval = args)
    (h : Calls Tryz.prog f args.toArray w fun e w' => ∃ r, e = .returned r ∧ K (a.put d r) w') : wpOp Tryz.prog ops Q i K a w := by
  subst hd
  exact wpOp_callF f l tys args fn hf hn hb hi hw hop ha h
theorem takeD {C : World → Prop} {i : Nat} {oi : Oper} {v : Value} {fuel : Nat} {listed : Array Bool} (d : Option Tmp) (hi : ops[i]? = some oi)
    (hs : Region.noSelect ops = true) (hf : Region.free .any ops listed i = true) (hr : (Region.ready .any ops listed).contains i = true) (hd : oi.dst = d)
    (hQ : ∀ c a w, Q (.panic c) (a.put d v) w → Q (.panic c) a w) (hy : YieldsIf Tryz.prog ops C oi v a) (hS : C w)
    (h : wpAnyH Tryz.prog .any ops Q C fuel (listed.setIfInBounds i true) (a.put d v) w) : wpAnyH Tryz.prog .any ops Q C (fuel + 1) listed a w := by
  subst hd
  exact wpAnyH_take hi hs hf hr hQ hy hS h
theorem wpOp_storeD {i : Nat} {o : Oper} {K : Act → World → Prop} (d : Option Tmp) (hi : ops[i]? = some o) (hw : Region.wanted o (yielded ops a.tmps) = true) (p x : Operand) (ho : o.op = .store 23 p x) (hd : o.dst = d)
    (g : Nat) (v0 v : V) (hx : a.eval p = .pointer (some ⟨g, 0, none⟩)) (hy : a.eval x = v.val) (hI : IsV w g v0)
    (h : ∀ w', IsV w' g v → Only g w w' → K (a.put d undef) w') : wpOp Tryz.prog ops Q i K a w := by
  subst hd
  exact wpOp_storeV hi hw p x ho g v0 v hx hy hI h
end
/-- The three blocks of the thin Resolve. -/
structure R3 (W : World) (g2 g3 g4 : Nat) (b r : V) (w : World) : Prop where
  ib : IsV w g2 b
  ir : IsV w g3 r
  iz : IsV w g4 V.zero
  tab : Tab w
  below : Below W.heap.size W w
  o1 : W.heap.size ≤ g2
  o2 : g2 < g3
  o3 : g3 < g4
theorem R3.keep {W w w' : World} {g2 g3 g4 : Nat} {b r : V} (h : R3 W g2 g3 g4 b r w) (hb : Below w.heap.size w w') : R3 W g2 g3 g4 b r w' :=
  ⟨h.ib.keep hb, h.ir.keep hb, h.iz.keep hb, h.tab.below hb, h.below.trans (hb.mono h.below.size), h.o1, h.o2, h.o3⟩

set_option maxRecDepth 100000 in
set_option maxHeartbeats 6400000 in
theorem t_resolve (W : World) (b r : V) (hb : b.Sm 4000) (hr : r.Sm 4000) (fb : b.fair) (fr : r.fair) (hT : Tab W) :
    Calls Tryz.prog 27 #[b.val, r.val] W fun e w' => e = .returned (U.resolve b r).val ∧ Below W.heap.size W w' := by
  have FO := Lib.hid (resolve_fair fb fr)
  obtain ⟨o, HO⟩ : ∃ o, Hid (U.resolve b r = o) := ⟨_, rfl⟩
  rw [HO.out] at FO ⊢
  have HB := Lib.hid hb
  have HR := Lib.hid hr
  have FB := Lib.hid fb
  have FR := Lib.hid fr
  have hB1 : Below W.heap.size W (((W.alloc (.cells b.cells 23)).alloc (.cells r.cells 23)).alloc (.cells V.zero.cells 23)) := (((Below.refl _ _).alloc (Nat.le_refl _) _).alloc (by simp) _).alloc (by simp; omega) _
  have hIb : IsV (((W.alloc (.cells b.cells 23)).alloc (.cells r.cells 23)).alloc (.cells V.zero.cells 23)) W.heap.size b := (Below.heap_alloc _ _ _ (by simp; omega)).trans ((Below.heap_alloc _ _ _ (by simp)).trans (heap_new _ _ _ rfl))
  have hIr : IsV (((W.alloc (.cells b.cells 23)).alloc (.cells r.cells 23)).alloc (.cells V.zero.cells 23)) (W.heap.size + 1) r := (Below.heap_alloc _ _ _ (by simp)).trans (heap_new _ _ _ (by simp))
  have hIz : IsV (((W.alloc (.cells b.cells 23)).alloc (.cells r.cells 23)).alloc (.cells V.zero.cells 23)) (W.heap.size + 1 + 1) V.zero := heap_new _ _ _ (by simp)
  have HK : Hid (R3 W W.heap.size (W.heap.size + 1) (W.heap.size + 1 + 1) b r (((W.alloc (.cells b.cells 23)).alloc (.cells r.cells 23)).alloc (.cells V.zero.cells 23))) := Lib.hid ⟨hIb, hIr, hIz, hT.below hB1, hB1, Nat.le_refl _, by omega, by omega⟩
  clear hb hr fb fr hT hB1 hIb hIr hIz
  go_enter Tryz.func27, Tryz.ntmps27
  go_upto_region 1 with fail
  change Code.wp _ _ _ _ (((W.alloc (.cells b.cells 23)).alloc (.cells r.cells 23)).alloc (.cells V.zero.cells 23))
  obtain ⟨W1, hW1⟩ : ∃ x, (((W.alloc (.cells b.cells 23)).alloc (.cells r.cells 23)).alloc (.cells V.zero.cells 23)) = x := ⟨_, rfl⟩
  rw [hW1] at HK ⊢
  clear hW1
  obtain ⟨g4, hg4⟩ : ∃ g, W.heap.size + 1 + 1 = g := ⟨_, rfl⟩
  obtain ⟨g3, hg3⟩ : ∃ g, W.heap.size + 1 = g := ⟨_, rfl⟩
  obtain ⟨g2, hg2⟩ : ∃ g, W.heap.size = g := ⟨_, rfl⟩
  have K1 : Hid (R3 W g2 g3 g4 b r W1) := by
    rw [← hg4, ← hg3, ← hg2]
    exact HK
  rw [hg4, hg3, hg2]
  clear hg4 hg3 hg2 HK
  go_wp2_with (refine wpl_loadV rfl _ rfl _ _ rfl K1.out.ib ?_)
  refine (i_fits b W1 HB.out).mono ?_
  rintro e w2 ⟨rfl, b2⟩
  have K2 := Lib.hid (K1.out.keep b2)
  clear b2 K1
  go_wp2_with (refine wpl_loadVg (wanted_on rfl rfl rfl rfl) _ rfl _ _ rfl K2.out.ir ?_)
  refine (i_fits r w2 HR.out).mono ?_
  rintro e w3 ⟨rfl, b3⟩
  have K3 := Lib.hid (K2.out.keep b3)
  clear b3 K2
  go_upto_region 3 with fail
  have K4 : Hid (R3 W g2 g3 g4 b r w3.drew) := Lib.hid (K3.out.keep ⟨rfl, rfl, rfl, Nat.le_refl _, fun _ _ => rfl⟩)
  clear K3
  go_cut [] (fun wx => IsV wx g4 o ∧ Hid (Below W.heap.size W wx))
  case first =>
    refine wp_region_held (S := fun w => IsV w g2 b ∧ IsV w g3 r) (by kernel_rfl) ?_
    change wpAnyH _ _ _ _ _ _ _ _ w3.drew
    refine takeD (i := 0) (v := b.val) (fuel := 6) (some 14) rfl (by kernel_rfl) (by kernel_rfl) (by kernel_rfl) rfl (fun _ _ _ h => h) (yl_loadV rfl _ rfl _ _ rfl (fun w h => h.1)) ⟨K4.out.ib, K4.out.ir⟩ ?_
    simp only [Act.put, List.setIfInBounds_toArray, List.set_cons_succ, List.set_cons_zero]
    refine takeD (i := 2) (v := r.val) (fuel := 5) (some 16) rfl (by kernel_rfl) (by kernel_rfl) (by kernel_rfl) rfl (fun _ _ _ h => h) (yl_loadV rfl _ rfl _ _ rfl (fun w h => h.2)) ⟨K4.out.ib, K4.out.ir⟩ ?_
    simp only [Act.put, List.setIfInBounds_toArray, List.set_cons_succ, List.set_cons_zero]
    refine anyH_one (i := 1) (fuel := 4) (by kernel_rfl) ?_
    refine wpOp_callD 43 _ _ [b.val] _ (some 15) Tryz.func43 (by kernel_rfl) rfl rfl rfl rfl rfl rfl ((i_made b _ FB.out).mono ?_)
    rintro e w5 ⟨b5, ga, rfl, hga, ua⟩
    have K5 := Lib.hid (K4.out.keep b5)
    have UA := Lib.hid ua
    clear b5 ua hga K4
    refine ⟨_, rfl, ⟨K5.out.ib, K5.out.ir⟩, ?_⟩
    simp only [Act.put, List.setIfInBounds_toArray, List.set_cons_succ, List.set_cons_zero]
    refine anyH_one (i := 3) (fuel := 3) (by kernel_rfl) ?_
    refine wpOp_callD 43 _ _ [r.val] _ (some 17) Tryz.func43 (by kernel_rfl) rfl rfl rfl rfl rfl rfl ((i_made r _ FR.out).mono ?_)
    rintro e w6 ⟨b6, gb, rfl, hgb, ub⟩
    have K6 := Lib.hid (K5.out.keep b6)
    have UA2 := Lib.hid (UA.out.keep b6)
    have UB := Lib.hid ub
    clear b6 ub hgb K5 UA
    refine ⟨_, rfl, ⟨K6.out.ib, K6.out.ir⟩, ?_⟩
    simp only [Act.put, List.setIfInBounds_toArray, List.set_cons_succ, List.set_cons_zero]
    refine anyH_one (i := 4) (fuel := 2) (by kernel_rfl) ?_
    refine wpOp_callD 51 _ _ [.pointer (some ⟨ga, 0, none⟩), .pointer (some ⟨gb, 0, none⟩)] _ (some 18) Tryz.func51 (by kernel_rfl) rfl rfl rfl rfl rfl rfl ((i_resolve w6 ga gb b r HB.out HR.out K6.out.tab UA2.out UB.out).mono ?_)
    rw [HO.out]
    rintro e w7 ⟨gc, rfl, b7, hgc, uc⟩
    have K7 := Lib.hid (K6.out.keep b7)
    have UC := Lib.hid uc
    clear b7 uc hgc K6 UA2 UB
    refine ⟨_, rfl, ⟨K7.out.ib, K7.out.ir⟩, ?_⟩
    simp only [Act.put, List.setIfInBounds_toArray, List.set_cons_succ, List.set_cons_zero]
    refine anyH_one (i := 5) (fuel := 1) (by kernel_rfl) ?_
    refine wpOp_callD 40 _ _ [.pointer (some ⟨gc, 0, none⟩)] _ (some 19) Tryz.func40 (by kernel_rfl) rfl rfl rfl rfl rfl rfl ((i_told w7 gc o UC.out FO.out).mono ?_)
    rintro e w8 ⟨rfl, b8⟩
    have K8 := Lib.hid (K7.out.keep b8)
    clear b8 K7 UC
    refine ⟨_, rfl, ⟨K8.out.ib, K8.out.ir⟩, ?_⟩
    simp only [Act.put, List.setIfInBounds_toArray, List.set_cons_succ, List.set_cons_zero]
    refine anyH_one (i := 6) (fuel := 0) (by kernel_rfl) ?_
    refine wpOp_storeD none rfl rfl _ _ rfl rfl g4 V.zero o rfl rfl K8.out.iz ?_
    intro w9 i9 o9
    have h1 := K8.out.o1; have h2 := K8.out.o2; have h3 := K8.out.o3
    have hb9 : Below W.heap.size W w9 := Only.below K8.out.below o9 K8.out.below.size (by omega)
    refine ⟨⟨(o9.block _ (heap_lt K8.out.ib) (by omega)).trans K8.out.ib, (o9.block _ (heap_lt K8.out.ir) (by omega)).trans K8.out.ir⟩, ?_⟩
    have B9 := Lib.hid hb9
    have I9 := Lib.hid i9
    clear hb9 i9 o9 K8 h1 h2 h3
    refine wpAnyH_done (by kernel_rfl) ?_ _
    go_wp2_with fail
    go_meet
    exact ⟨I9.out, B9⟩
  obtain ⟨i9, B9⟩ := hcut
  have I9 := Lib.hid i9
  clear i9 K4
  go_wp2_with fail
  refine ret_V1 Tryz.results27 _ _ rfl rfl I9.out ?_
  exact ⟨rfl, B9.out⟩
end Go.Proofs.YtphkohpphdcjhaaGreatDoor
