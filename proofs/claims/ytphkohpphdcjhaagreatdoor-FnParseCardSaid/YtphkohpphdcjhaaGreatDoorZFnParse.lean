/- FnParse: every text is taken apart as the reference that it is, or refused, whatever the text and whether as a request's address. Conditions: those of the row: the listed package-level variables hold what the program's text lays (tied). -/
import Derived.Test.YtphkohpphdcjhaaGreatDoorK12
namespace Go.Proofs.YtphkohpphdcjhaaGreatDoor
open Go.RowKit Go.Proofs.YtphkohpphdcjhaaGreatDoorW.PrintWords Go.Proofs.YtphkohpphdcjhaaGreatDoorW.PrintLast
open U (L S)

theorem readP_is {W w' : World} {q : Option V} {e : Ending} (h : ReadP W q e w') : Below W.heap.size W w' ∧ e = .returned (.tuple #[(q.getD V.zero).val, .bool q.isSome]) := by
  cases q <;> exact h
theorem specP_is {W w' : World} {q : Option V} {e : Ending} (h : SpecP W (some q) e w') : Below W.heap.size W w' ∧ e = .returned (.tuple #[(q.getD V.zero).val, .bool q.isSome, .bool true]) := by
  cases q <;> exact h

set_option maxRecDepth 100000 in
set_option maxHeartbeats 3200000 in
theorem walk_FnParse (s : ByteArray) (rq : Bool) (W : World) (hs : s.size ≤ 9223372036854775807) (hT : Tab W) : Calls Tryz.prog 3 #[.string s, .bool rq] W (Yes W) := by
  have HT := Lib.hid hT
  clear hT
  by_cases h1 : 2147483647 < (s.size : Int)
  · go_enter Tryz.func3, Tryz.ntmps3
    go_wp2_with fail
    go_ret
    exact ⟨rfl, Below.refl _ _⟩
  · by_cases h2 : 300 < (s.size : Int)
    · go_enter Tryz.func3, Tryz.ntmps3
      go_wp2_with fail
      go_ret
      exact ⟨rfl, Below.refl _ _⟩
    · obtain ⟨o, HO⟩ : ∃ o, Hid (U.parse (L s) rq = o) := ⟨_, rfl⟩
      have cp := c_Parse W s rq (by omega)
      rw [HO.out] at cp
      have CP := Lib.hid cp
      clear cp
      go_enter Tryz.func3, Tryz.ntmps3
      go_wp2_with fail
      refine CP.out.mono ?_
      cases o with
      | none =>
        rintro e w1 ⟨b1, rfl⟩
        have B1 := Lib.hid b1
        clear b1
        go_wp2_with fail
        go_ret
        exact ⟨rfl, B1.out.alloc B1.out.size _⟩
      | some q =>
        intro e w1 h1
        obtain ⟨b1, rfl⟩ := specP_is h1
        obtain ⟨v, hv⟩ : ∃ v, q.getD V.zero = v := ⟨_, rfl⟩
        obtain ⟨ok, hok⟩ : ∃ b, q.isSome = b := ⟨_, rfl⟩
        rw [hv, hok]
        have HV := Lib.hid hv
        have HOK := Lib.hid hok
        have B1 := Lib.hid b1
        clear b1 h1 hv hok
        cases rq
        · as_aux_lemma =>
            go_upto_region 11 with fail
            obtain ⟨g5, hg5⟩ : ∃ g, w1.heap.size = g := ⟨_, rfl⟩
            have hI5 : IsV (w1.alloc (.cells v.cells 23)) g5 v := heap_new _ _ _ hg5.symm
            have hB2 : Below W.heap.size W (w1.alloc (.cells v.cells 23)) := B1.out.alloc B1.out.size _
            obtain ⟨W2, hW2⟩ : ∃ x, w1.alloc (.cells v.cells 23) = x := ⟨_, rfl⟩
            change Code.wp _ _ _ _ (w1.alloc (.cells v.cells 23))
            rw [hg5]
            rw [hW2] at hI5 hB2 ⊢
            have I5 := Lib.hid hI5
            have B2 := Lib.hid hB2
            have CR := Lib.hid (t_Parse s q W2 (by omega) (HT.out.below hB2) HO.out)
            clear hg5 hW2 hI5 hB2
            go_wp2_with fail
            refine CR.out.mono ?_
            intro e w3 h3
            obtain ⟨b3, rfl⟩ := readP_is h3
            rw [HV.out, HOK.out]
            have hI5 := I5.out.keep b3
            have hB3 := B2.out.trans (b3.mono B2.out.size)
            clear h3 b3 I5 CR
            go_upto_region 12 with fail
            obtain ⟨g8, hg8⟩ : ∃ g, w3.heap.size = g := ⟨_, rfl⟩
            have hI8 : IsV (w3.alloc (.cells v.cells 23)) g8 v := heap_new _ _ _ hg8.symm
            have hI5' : IsV (w3.alloc (.cells v.cells 23)) g5 v := hI5.keep ((Below.refl _ _).alloc (Nat.le_refl _) _)
            have hB4 : Below W.heap.size W (w3.alloc (.cells v.cells 23)) := hB3.alloc hB3.size _
            obtain ⟨W4, hW4⟩ : ∃ x, w3.alloc (.cells v.cells 23) = x := ⟨_, rfl⟩
            change Code.wp _ _ _ _ (w3.alloc (.cells v.cells 23))
            rw [hg8]
            rw [hW4] at hI8 hI5' hB4 ⊢
            have I5 := Lib.hid hI5'
            have I8 := Lib.hid hI8
            have eq := run_eql23 v v W4
            rw [eqV_same] at eq
            have CA := Lib.hid (c_alive W4 (HT.out.below hB4))
            have B4 := Lib.hid hB4
            clear hg8 hW4 hI8 hI5 hI5' hB3 hB4
            cases ok
            all_goals
              go_wp2_with (first | (refine wpl_loadVg (wanted_on rfl rfl rfl rfl) _ rfl _ _ rfl I5.out ?_) | (refine wpl_loadVg (wanted_on rfl rfl rfl rfl) _ rfl _ _ rfl I8.out ?_))
              refine CA.out.mono ?_
              rintro e w5 ⟨rfl, b5⟩
              have B5 := Lib.hid (B4.out.trans (b5.mono B4.out.size))
              clear b5
              go_wp2_with fail
              go_ret
              exact ⟨rfl, B5.out⟩
        · as_aux_lemma =>
            go_upto_region 9 with fail
            obtain ⟨g5, hg5⟩ : ∃ g, w1.heap.size = g := ⟨_, rfl⟩
            have hI5 : IsV (w1.alloc (.cells v.cells 23)) g5 v := heap_new _ _ _ hg5.symm
            have hB2 : Below W.heap.size W (w1.alloc (.cells v.cells 23)) := B1.out.alloc B1.out.size _
            obtain ⟨W2, hW2⟩ : ∃ x, w1.alloc (.cells v.cells 23) = x := ⟨_, rfl⟩
            change Code.wp _ _ _ _ (w1.alloc (.cells v.cells 23))
            rw [hg5]
            rw [hW2] at hI5 hB2 ⊢
            have I5 := Lib.hid hI5
            have B2 := Lib.hid hB2
            have CR := Lib.hid (t_ParseRequest s q W2 (by omega) (HT.out.below hB2) HO.out)
            clear hg5 hW2 hI5 hB2
            go_wp2_with fail
            refine CR.out.mono ?_
            intro e w3 h3
            obtain ⟨b3, rfl⟩ := readP_is h3
            rw [HV.out, HOK.out]
            have hI5 := I5.out.keep b3
            have hB3 := B2.out.trans (b3.mono B2.out.size)
            clear h3 b3 I5 CR
            go_upto_region 10 with fail
            obtain ⟨g8, hg8⟩ : ∃ g, w3.heap.size = g := ⟨_, rfl⟩
            have hI8 : IsV (w3.alloc (.cells v.cells 23)) g8 v := heap_new _ _ _ hg8.symm
            have hI5' : IsV (w3.alloc (.cells v.cells 23)) g5 v := hI5.keep ((Below.refl _ _).alloc (Nat.le_refl _) _)
            have hB4 : Below W.heap.size W (w3.alloc (.cells v.cells 23)) := hB3.alloc hB3.size _
            obtain ⟨W4, hW4⟩ : ∃ x, w3.alloc (.cells v.cells 23) = x := ⟨_, rfl⟩
            change Code.wp _ _ _ _ (w3.alloc (.cells v.cells 23))
            rw [hg8]
            rw [hW4] at hI8 hI5' hB4 ⊢
            have I5 := Lib.hid hI5'
            have I8 := Lib.hid hI8
            have eq := run_eql23 v v W4
            rw [eqV_same] at eq
            have CA := Lib.hid (c_alive W4 (HT.out.below hB4))
            have B4 := Lib.hid hB4
            clear hg8 hW4 hI8 hI5 hI5' hB3 hB4
            cases ok
            all_goals
              go_wp2_with (first | (refine wpl_loadVg (wanted_on rfl rfl rfl rfl) _ rfl _ _ rfl I5.out ?_) | (refine wpl_loadVg (wanted_on rfl rfl rfl rfl) _ rfl _ _ rfl I8.out ?_))
              refine CA.out.mono ?_
              rintro e w5 ⟨rfl, b5⟩
              have B5 := Lib.hid (B4.out.trans (b5.mono B4.out.size))
              clear b5
              go_wp2_with fail
              go_ret
              exact ⟨rfl, B5.out⟩
end Go.Proofs.YtphkohpphdcjhaaGreatDoor
namespace Go.Proofs.YtphkohpphdcjhaaGreatDoor.fnParse
open Go.ChangeShapes Go.WideShapes Go.ChangeAt Go.RowKit
open Go.ChangeMaps (open_string shut_string)

set_option maxRecDepth 100000 in
theorem lifted (os : Os) (started : os.Started) (H : Type) (enc : TypeId × Value → H) :
    ReturnsInHanded {} Tryz.checked os 3 .any (fun w args => (Rows.fnParseSpec.pre enc Tryz.prog Tryz.f3 Rows.fnParseRow.domain false w args ∧ laidMetH Tryz.prog Rows.fnParseRow.laid w) ∧ sizedMet enc Tryz.prog Tryz.f3 (OpenSpec.ofChange Rows.fnParseSpec) false w args)
      (Rows.fnParseSpec.post enc Tryz.prog Tryz.f3 false true false false) := by
  refine returnsInHanded_of_change_and (C := Tryz.checked) (X := fun w _ => laidMetH Tryz.prog Rows.fnParseRow.laid w) (fun _ _ _ hh h => h.of_heap hh) own started (by kernel_rfl) Tryz.func3
    (ChangeSpec.witness_shaped (enc := enc) (C := Tryz.checked) (os := os) (X := fun w _ => laidMetH Tryz.prog Rows.fnParseRow.laid w) false (World.laidAll Tryz.prog os listed) #[.string ⟨#[]⟩, .bool false] 300 (World.laidAll_os _ _ _)
      (World.shaped_of_ZipB (by kernel_rfl) (by kernel_rfl)) (by kernel_rfl) (by kernel_rfl) (by kernel_rfl)
      (by rw [MakeChecks.laidMetH_plain _ _ _ (by kernel_rfl)]; exact laidMet_laidAll _ (by kernel_rfl) (by kernel_rfl))) ?_
  intro W base args ds gs before hval0 hW hc _ hL _
  have hval : ∀ (j : Nat) t v, Tryz.f3.params[j]? = some t → args[j]? = some v → Value.okWide Tryz.prog W .any base t v := hval0
  have hW' := hW
  obtain ⟨p, q, hA0, hV, rfl, _, _⟩ := hW
  have hA : DataW.TrodAll enc Tryz.prog W 0 (fun _ => true) true Tryz.f3.params.toList args.toList ds p := hA0
  rw [Tryz.params3] at hA hval
  obtain ⟨v0, vs0, d0, ds0, p0, q0, hargs, rfl, rfl, h0, r0⟩ := trodAll_cons hA
  obtain ⟨v1, vs1, d1, ds1, p1, q1, rfl, rfl, rfl, h1, r1⟩ := trodAll_cons r0
  obtain ⟨rfl, rfl, rfl⟩ := trodAll_nil r1
  obtain rfl : args = #[v0, v1] := by cases args; simp_all
  obtain ⟨s, rfl, rfl, rfl, ws⟩ := open_string Tryz.underlying9 (hval 0 9 v0 rfl rfl) h0
  obtain ⟨b, rfl, rfl, rfl⟩ := open_bool Tryz.underlying4 (hval 1 4 v1 rfl rfl) h1
  simp only [List.append_nil] at hW'
  refine (walk_FnParse s b W (by simpa [maxLen] using ws) (tab_of hL)).mono fun e W' ⟨he, hb⟩ => ?_
  subst he
  have hV2 := Below.trodVars laidOut hb varsRowed1 hV
  obtain ⟨g, t, cs, fuel, d, pv, rfl, _⟩ := trodVars_one hV
  exact ⟨_, rfl, _, _, _, [], [], _, hW', trodAll_mk1 (shut_bool Tryz.underlying4 _), trodAll_mk2 (shut_string Tryz.underlying9 ws) (shut_bool Tryz.underlying4 _), hV2, hb.frame _, fun h => by cases h⟩

theorem said : Rows.FnParseSaid :=
  OpenClaim.holds_of_wide 3 Tryz.f3 rfl rfl rfl rfl rfl rfl rfl ⟨rfl, rfl, rfl, rfl, rfl⟩ rfl rfl rfl rfl rfl (by kernel_rfl) Tryz.func3 (by kernel_rfl)
    (of_decide_eq_true (by kernel_rfl)) (by unfold Func.isWrapper; first | (rw [if_pos (by decide +kernel)]; kernel_rfl) | (rw [if_neg (by decide +kernel)]; exact ⟨rfl, rfl⟩))
    (fun os started H enc _ => lifted os started H enc)
/-- No parameter wants a stand-in; the program's own looks are off: what the card asks. -/
theorem plain (f : FuncId) (fn : Func) (hf : Tryz.pinned.checked.prog.funcNamed "loop.example/pub-g03278/laws.FnParse" = some f) (hfn : Tryz.pinned.checked.prog.funcs[f]? = some fn) :
    false = Tryz.pinned.checked.prog.looks [] ∧ ∀ (j : Nat) t, fn.params[j]? = some t → Tryz.pinned.checked.prog.wantsStandIn t = false := by
  obtain rfl : f = 3 := Option.some.inj ((show Tryz.prog.funcNamed "loop.example/pub-g03278/laws.FnParse" = some 3 by kernel_rfl).symm.trans hf) |>.symm
  obtain rfl : fn = Tryz.f3 := (Option.some.inj (Tryz.func3.symm.trans hfn)).symm
  refine ⟨by kernel_rfl, fun j t ht => ?_⟩
  rw [Tryz.params3] at ht
  have hm : t ∈ [9, 4] := by simpa using Array.mem_of_getElem? ht
  have hall : ([9, 4].all fun u => !Tryz.prog.wantsStandIn u) = true := by kernel_rfl
  exact (show Tryz.prog.wantsStandIn t = false by simpa using List.all_eq_true.1 hall t hm)

/-- The tied card. -/
theorem fnParse_holds : Rows.FnParseCardSaid :=
  Claim7.holds_tied_plain_at .later [] _ _ _ _ said (fun _ h => by cases h) (by kernel_rfl) (fun _ h => by cases h) fnParse_row_tie rfl ⟨rfl, rfl⟩ (by kernel_rfl) rfl plain (by kernel_rfl)
#print axioms fnParse_holds
end Go.Proofs.YtphkohpphdcjhaaGreatDoor.fnParse
