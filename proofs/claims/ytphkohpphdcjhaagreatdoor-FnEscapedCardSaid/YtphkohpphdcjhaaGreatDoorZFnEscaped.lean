/- FnEscaped: of every reference the escaped path, the escaped fragment, what is asked of the host and whether it is absolute are the words' own. Conditions: those of the row: the listed package-level variables hold what the program's text lays (tied). -/
import Derived.Test.YtphkohpphdcjhaaGreatDoorK13
namespace Go.Proofs.YtphkohpphdcjhaaGreatDoor
open Go.RowKit Go.Proofs.YtphkohpphdcjhaaGreatDoorW.PrintWords Go.Proofs.YtphkohpphdcjhaaGreatDoorW.PrintLast
open U (L S)

set_option maxRecDepth 100000 in
set_option maxHeartbeats 6400000 in
theorem walk_FnEscaped (v : V) (W : World) (hv : v.Sm 9223372036854775807) (hT : Tab W) : Calls Tryz.prog 4 #[v.val] W (Yes W) := by
  have hB : Below W.heap.size W (W.alloc (.cells v.cells 23)) := (Below.refl _ _).alloc (Nat.le_refl _) _
  have hI : IsV (W.alloc (.cells v.cells 23)) W.heap.size v := heap_new _ _ _ rfl
  have HV := Lib.hid hv
  have HK : Hid (Keeps W W.heap.size v (W.alloc (.cells v.cells 23))) := Lib.hid ⟨hI, hT.below hB, hB⟩
  clear hB hI hv hT
  go_enter Tryz.func4, Tryz.ntmps4
  go_upto_region 1 with fail
  change Code.wp _ _ _ _ (W.alloc (.cells v.cells 23))
  obtain ⟨W1, hW1⟩ : ∃ x, W.alloc (.cells v.cells 23) = x := ⟨_, rfl⟩
  rw [hW1] at HK ⊢
  clear hW1
  have CF := Lib.hid (c_zzFits v W1 HV.out)
  obtain ⟨g, hg⟩ : ∃ g, W.heap.size = g := ⟨_, rfl⟩
  rw [hg] at HK ⊢
  go_wp2_with (refine wpl_loadV rfl _ rfl _ _ rfl HK.out.1 ?_)
  refine CF.out.mono ?_
  rintro e w2 ⟨b, rfl, hb, b2⟩
  have K2 := Lib.hid (HK.out.next b2)
  have HBS := Lib.hid hb
  clear b2 hb HK CF
  cases b
  · go_wp2_with fail
    go_ret
    subst hg
    exact ⟨rfl, K2.out.2.2⟩
  have HS := Lib.hid (HBS.out rfl)
  clear HBS
  go_upto_region 3 with fail
  have C17 : Hid (∀ w, Keeps W g v w → Calls Tryz.prog 17 #[v.val] w fun e w' => e = .returned (.bool (shortB v)) ∧ Keeps W g v w') :=
    Lib.hid fun w hw => hw.calls (c_short v w HS.out)
  obtain ⟨sb, HSB⟩ : ∃ b, Hid (shortB v = b) := ⟨_, rfl⟩
  rw [HSB.out] at C17
  cases sb
  · refine wp_region_class (Keeps W g v) (by kernel_rfl) K2.out.drew ?_
    repeat (first | go_big_quiet_skip | (refine q_loadV rfl _ rfl rfl ?_; simp only [Act.put, List.setIfInBounds_toArray, List.set_cons_succ, List.set_cons_zero]) | (go_big_quiet_want; go_big_quiet_op; first | go_big_quiet_on | (refine ⟨_, fun _ _ => rfl, ?_⟩; go_big_quiet_on) | go_big_quiet_call (exact C17.out _)))
    refine wpQuiet_nil ?_
    intro w9 k9
    have K9 := Lib.hid k9
    clear k9
    go_wp2_with fail
    go_ret
    subst hg
    exact ⟨rfl, K9.out.2.2⟩
  · have hs := shortB_ok HSB.out
    have hs4 : v.Sm 4000 := hs.1.mono (by decide)
    have hsb : v.Sm 100000000 := hs.1.mono (by decide)
    have hsp : Sm v.path ∧ Sm v.rawPath := ⟨by have := hs.1.path; unfold Sm; omega, by have := hs.1.rawPath; unfold Sm; omega⟩
    have hsf : Sm v.fragment ∧ Sm v.rawFragment := ⟨by have := hs.1.fragment; unfold Sm; omega, by have := hs.1.rawFragment; unfold Sm; omega⟩
    have C18 := Lib.hid fun w (hw : Keeps W g v w) => hw.calls (t_escPath v w hs4 hs.2 hw.2.1)
    have C19 := Lib.hid fun w (hw : Keeps W g v w) => hw.calls (c_escPath w v hsp)
    have C20 := Lib.hid fun w (hw : Keeps W g v w) => hw.calls (t_escFrag v w hs4 hs.2 hw.2.1)
    have C21 := Lib.hid fun w (hw : Keeps W g v w) => hw.calls (c_escFrag w v hsf)
    have C22 := Lib.hid fun w (hw : Keeps W g v w) => hw.calls (t_request v w hs4 hs.2 hw.2.1)
    have C23 := Lib.hid fun w (hw : Keeps W g v w) => hw.calls (c_request w v hsb)
    have C24 := Lib.hid fun w (hw : Keeps W g v w) => hw.calls (t_isAbs v w hs4 hs.2 hw.2.1)
    have C14 := Lib.hid fun w (hw : Keeps W g v w) => hw.calls (c_alive w hw.2.1)
    have CS : Hid (∀ w, Keeps W g v w → w.cell? ⟨g, 0, none⟩ = some (.string v.scheme)) := Lib.hid fun w hw => cell_at hw.1 rfl
    generalize S (U.escPath v) = x1 at C18 C19
    generalize S (U.escFrag v) = x2 at C20 C21
    generalize S (U.request v) = x3 at C22 C23
    clear hs hs4 hsb hsp hsf
    rcases empty_way v.scheme with ⟨u1, u2⟩ | ⟨u1, u2⟩
    all_goals
      rw [show decide (L v.scheme = []) = _ from by first | exact decide_eq_true u1 | exact decide_eq_false u1] at C24
      clear u1
      refine wp_region_class (Keeps W g v) (by kernel_rfl) K2.out.drew ?_
      (repeat (first | go_big_quiet_skip | (refine q_loadV rfl _ rfl rfl ?_; simp only [Act.put, List.setIfInBounds_toArray, List.set_cons_succ, List.set_cons_zero]) | (go_big_quiet_want; go_big_quiet_op; first | go_big_quiet_on | (refine ⟨_, fun _ _ => rfl, ?_⟩; go_big_quiet_on) | go_big_quiet_call (first | exact C17.out _ | exact C18.out _ | exact C19.out _ | exact C20.out _ | exact C21.out _ | exact C22.out _ | exact C23.out _ | exact C24.out _ | exact C14.out _))))
      refine q_any (u := .string v.scheme) rfl (fun w hw => ?_) ?_
      · have c0 := CS.out w hw
        clear CS
        simp [Oper.quietAt, go_sem, c0]
      simp only [Act.put, List.setIfInBounds_toArray, List.set_cons_succ, List.set_cons_zero]
      (repeat (first | go_big_quiet_skip | (refine q_loadV rfl _ rfl rfl ?_; simp only [Act.put, List.setIfInBounds_toArray, List.set_cons_succ, List.set_cons_zero]) | (go_big_quiet_want; go_big_quiet_op; first | go_big_quiet_on | (refine ⟨_, fun _ _ => rfl, ?_⟩; go_big_quiet_on) | go_big_quiet_call (first | exact C17.out _ | exact C18.out _ | exact C19.out _ | exact C20.out _ | exact C21.out _ | exact C22.out _ | exact C23.out _ | exact C24.out _ | exact C14.out _))))
      refine wpQuiet_nil ?_
      intro w9 k9
      have K9 := Lib.hid k9
      clear k9
      go_wp2_with fail
      go_ret
      subst hg
      exact ⟨rfl, K9.out.2.2⟩
end Go.Proofs.YtphkohpphdcjhaaGreatDoor
namespace Go.Proofs.YtphkohpphdcjhaaGreatDoor.fnEscaped
open Go.ChangeShapes Go.WideShapes Go.ChangeAt Go.RowKit
open Go.ChangeMaps (open_string shut_string)

set_option maxRecDepth 100000 in
theorem lifted (os : Os) (started : os.Started) (H : Type) (enc : TypeId × Value → H) :
    ReturnsInHanded {} Tryz.checked os 4 .any (fun w args => (Rows.fnEscapedSpec.pre enc Tryz.prog Tryz.f4 Rows.fnEscapedRow.domain false w args ∧ laidMetH Tryz.prog Rows.fnEscapedRow.laid w) ∧ sizedMet enc Tryz.prog Tryz.f4 (OpenSpec.ofChange Rows.fnEscapedSpec) false w args)
      (Rows.fnEscapedSpec.post enc Tryz.prog Tryz.f4 false true false false) := by
  refine returnsInHanded_of_change_and (C := Tryz.checked) (X := fun w _ => laidMetH Tryz.prog Rows.fnEscapedRow.laid w) (fun _ _ _ hh h => h.of_heap hh) own started (by kernel_rfl) Tryz.func4
    (ChangeSpec.witness_shaped (enc := enc) (C := Tryz.checked) (os := os) (X := fun w _ => laidMetH Tryz.prog Rows.fnEscapedRow.laid w) false (World.laidAll Tryz.prog os listed) #[V.zero.val] 300 (World.laidAll_os _ _ _)
      (World.shaped_of_ZipB (by kernel_rfl) (by kernel_rfl)) (by kernel_rfl) (by kernel_rfl) (by kernel_rfl)
      (by rw [MakeChecks.laidMetH_plain _ _ _ (by kernel_rfl)]; exact laidMet_laidAll _ (by kernel_rfl) (by kernel_rfl))) ?_
  intro W base args ds gs before hval0 hW hc _ hL _
  have hval : ∀ (j : Nat) t v, Tryz.f4.params[j]? = some t → args[j]? = some v → Value.okWide Tryz.prog W .any base t v := hval0
  have hW' := hW
  obtain ⟨p, q, hA0, hV, rfl, _, _⟩ := hW
  have hA : DataW.TrodAll enc Tryz.prog W 0 (fun _ => true) true Tryz.f4.params.toList args.toList ds p := hA0
  rw [Tryz.params4] at hA hval
  obtain ⟨v0, vs0, d0, ds0, p0, q0, hargs, rfl, rfl, h0, r0⟩ := trodAll_cons hA
  obtain ⟨rfl, rfl, rfl⟩ := trodAll_nil r0
  obtain rfl : args = #[v0] := by cases args; simp_all
  obtain ⟨s, rfl, ws⟩ := open_V (hval 0 23 v0 rfl rfl)
  obtain rfl := places_V h0
  refine (walk_FnEscaped s W ws (tab_of hL)).mono fun e W' ⟨he, hb⟩ => ?_
  subst he
  have hV2 := Below.trodVars laidOut hb varsRowed1 hV
  obtain ⟨g, t, cs, fuel, d, pv, rfl, _⟩ := trodVars_one hV
  exact ⟨_, rfl, _, _, _, [], [], _, hW', trodAll_mk1 (shut_bool Tryz.underlying4 _), trodAll_mk1 (shut_V h0), hV2, hb.frame _, fun h => by cases h⟩

theorem said : Rows.FnEscapedSaid :=
  OpenClaim.holds_of_wide 4 Tryz.f4 rfl rfl rfl rfl rfl rfl rfl ⟨rfl, rfl, rfl, rfl, rfl⟩ rfl rfl rfl rfl rfl (by kernel_rfl) Tryz.func4 (by kernel_rfl)
    (of_decide_eq_true (by kernel_rfl)) (by unfold Func.isWrapper; first | (rw [if_pos (by decide +kernel)]; kernel_rfl) | (rw [if_neg (by decide +kernel)]; exact ⟨rfl, rfl⟩))
    (fun os started H enc _ => lifted os started H enc)
/-- No parameter wants a stand-in; the program's own looks are off: what the card asks. -/
theorem plain (f : FuncId) (fn : Func) (hf : Tryz.pinned.checked.prog.funcNamed "loop.example/pub-g03278/laws.FnEscaped" = some f) (hfn : Tryz.pinned.checked.prog.funcs[f]? = some fn) :
    false = Tryz.pinned.checked.prog.looks [] ∧ ∀ (j : Nat) t, fn.params[j]? = some t → Tryz.pinned.checked.prog.wantsStandIn t = false := by
  obtain rfl : f = 4 := Option.some.inj ((show Tryz.prog.funcNamed "loop.example/pub-g03278/laws.FnEscaped" = some 4 by kernel_rfl).symm.trans hf) |>.symm
  obtain rfl : fn = Tryz.f4 := (Option.some.inj (Tryz.func4.symm.trans hfn)).symm
  refine ⟨by kernel_rfl, fun j t ht => ?_⟩
  rw [Tryz.params4] at ht
  have hm : t ∈ [23] := by simpa using Array.mem_of_getElem? ht
  have hall : ([23].all fun u => !Tryz.prog.wantsStandIn u) = true := by kernel_rfl
  exact (show Tryz.prog.wantsStandIn t = false by simpa using List.all_eq_true.1 hall t hm)

/-- The tied card. -/
theorem fnEscaped_holds : Rows.FnEscapedCardSaid :=
  Claim7.holds_tied_plain_at .later [] _ _ _ _ said (fun _ h => by cases h) (by kernel_rfl) (fun _ h => by cases h) fnEscaped_row_tie rfl ⟨rfl, rfl⟩ (by kernel_rfl) rfl plain (by kernel_rfl)
#print axioms fnEscaped_holds
end Go.Proofs.YtphkohpphdcjhaaGreatDoor.fnEscaped
