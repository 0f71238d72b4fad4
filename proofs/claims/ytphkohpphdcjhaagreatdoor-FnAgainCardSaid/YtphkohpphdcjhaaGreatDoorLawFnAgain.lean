/- The walk of the statement FnAgain. -/
import Derived.Test.YtphkohpphdcjhaaGreatDoorImplS
import Derived.Test.YtphkohpphdcjhaaGreatDoorSpecJ
import Derived.Test.YtphkohpphdcjhaaGreatDoorK12
import Derived.Test.YtphkohpphdcjhaaGreatDoorK1
namespace Go.Proofs.YtphkohpphdcjhaaGreatDoor
open Go.RowKit Go.Proofs.YtphkohpphdcjhaaGreatDoorW.PrintWords Go.Proofs.YtphkohpphdcjhaaGreatDoorW.PrintLast
open U (L S)

theorem guard23 (x y : Operand) (v u : V) (w : World) : (eqGuard .neq 23 x y v.val u.val).run Tryz.prog w = .ok () w := by
  have h : Tryz.prog.eqGuardType Tryz.prog.depth 23 = false := by kernel_rfl
  unfold eqGuard
  simp [go_sem, h]
/-- Two references compared, under a guard that holds. -/
theorem wpl_neqVg {ops : Array Oper} {rest : List Oper} {o : Oper} {a : Act} {w : World} {Q : Exit → Act → World → Prop} (hw : Region.wanted o (yielded ops a.tmps) = true) (x y : Operand) (ho : o.op = .binOp .neq 23 x y 23)
    (v u : V) (c : Bool) (hx : a.eval x = v.val) (hy : a.eval y = u.val) (hc : (!eqV v u) = c) (h : wpList Tryz.prog ops Q rest (a.put o.dst (.bool c)) w) : wpList Tryz.prog ops Q (o :: rest) a w :=
  wpList_step fun _ hK => by
    rw [if_pos hw]
    unfold Oper.wp execOp
    have := run_neq23 v u w
    rw [hc] at this
    simp only [ho, hx, hy, Sem.run_bind, Sem.run_pure, guard23, Result.andThen_ok, this]
    exact hK _ _ h
theorem read_is {W w' : World} {q : Option V} {e : Ending} (h : ReadP W q e w') : Below W.heap.size W w' ∧ e = .returned (.tuple #[(q.getD V.zero).val, .bool q.isSome]) := by
  cases q <;> exact h
theorem spec_is {W w' : World} {q : Option V} {e : Ending} (h : SpecP W (some q) e w') : Below W.heap.size W w' ∧ e = .returned (.tuple #[(q.getD V.zero).val, .bool q.isSome, .bool true]) := by
  cases q <;> exact h
/-- A reference that is read is short, and its user's name and password stand with their truths alone. -/
theorem parse_small {s : ByteArray} {q : Bool} {v : V} (hs : s.size ≤ 300) (h : U.parse (L s) q = some (some v)) : v.Sm 300 := by
  have h1 := U.parse_sum h
  have h2 := U.parse_raw h
  unfold U.sum at h1
  simp only [U.len_L] at h1 h2
  exact ⟨by omega, by omega, by omega, by omega, by omega, by omega, by omega, by omega, by omega, by omega⟩

set_option maxRecDepth 100000 in
set_option maxHeartbeats 6400000 in
theorem walk_FnAgain (s : ByteArray) (W : World) (hs : s.size ≤ 9223372036854775807) (hT : Tab W) : Calls Tryz.prog 5 #[.string s] W (Yes W) := by
  have HT := Lib.hid hT
  clear hT
  by_cases h1 : 2147483647 < (s.size : Int)
  · go_enter Tryz.func5, Tryz.ntmps5
    go_wp2_with fail
    go_ret
    exact ⟨rfl, Below.refl _ _⟩
  by_cases h2 : 300 < (s.size : Int)
  · go_enter Tryz.func5, Tryz.ntmps5
    go_wp2_with fail
    go_ret
    exact ⟨rfl, Below.refl _ _⟩
  obtain ⟨o, HO⟩ : ∃ o, Hid (U.parse (L s) false = o) := ⟨_, rfl⟩
  have cp := c_Parse W s false (by omega)
  rw [HO.out] at cp
  have CP := Lib.hid cp
  clear cp
  go_enter Tryz.func5, Tryz.ntmps5
  go_wp2_with fail
  refine CP.out.mono ?_
  cases o with
  | none =>
    rintro e w1 ⟨b1, rfl⟩
    have B1 := Lib.hid b1
    clear b1
    go_wp2_with fail
    go_ret
    exact ⟨rfl, B1.out.alloc B1.out.size _⟩
  | some q =>
    intro e w1 h3
    obtain ⟨b1, rfl⟩ := spec_is h3
    have B1 := Lib.hid b1
    clear b1 h3
    cases q with
    | none =>
      as_aux_lemma =>
      go_wp2_with fail
      go_ret
      exact ⟨rfl, B1.out.alloc B1.out.size _⟩
    | some v =>

      have hsm := parse_small (by omega) HO.out
      have hfa := U.parse_fair HO.out
      have htl := U.parse_text_len HO.out
      rw [U.len_L] at htl
      have HSM := Lib.hid hsm
      have HFA := Lib.hid hfa
      obtain ⟨t, HTX⟩ : ∃ t, Hid (S (U.text v) = t) := ⟨_, rfl⟩
      have htz : t.size ≤ 4000 := by rw [← HTX.out, len_S]; omega
      have HTZ := Lib.hid htz
      clear hsm hfa htl htz
      go_upto_region 6 with fail
      obtain ⟨g3, hg3⟩ : ∃ g, w1.heap.size = g := ⟨_, rfl⟩
      have hI3 : IsV (w1.alloc (.cells v.cells 23)) g3 v := heap_new _ _ _ hg3.symm
      have hB2 : Below W.heap.size W (w1.alloc (.cells v.cells 23)) := B1.out.alloc B1.out.size _
      obtain ⟨W2, hW2⟩ : ∃ x, w1.alloc (.cells v.cells 23) = x := ⟨_, rfl⟩
      change Code.wp _ _ _ _ (w1.alloc (.cells v.cells 23))
      rw [hg3]
      rw [hW2] at hI3 hB2 ⊢
      have I3 := Lib.hid hI3
      have B2 := Lib.hid hB2
      have CT := Lib.hid (c_text W2 v (HSM.out.mono (by decide)))
      clear hg3 hW2 hI3 hB2 B1 CP
      go_wp2_with (refine wpl_loadV rfl _ rfl _ _ rfl I3.out ?_)
      refine CT.out.mono ?_
      rintro e w3 ⟨rfl, b3⟩
      rw [HTX.out]
      have I3b := Lib.hid (I3.out.keep b3)
      have B3 := Lib.hid (B2.out.trans (b3.mono B2.out.size))
      clear b3 I3 B2 CT
      obtain ⟨o2, HO2⟩ : ∃ o, Hid (U.parse (L t) false = o) := ⟨_, rfl⟩
      have cp := c_Parse w3 t false (by have := HTZ.out; omega)
      rw [HO2.out] at cp
      have CP := Lib.hid cp
      clear cp
      go_wp2_with fail
      refine CP.out.mono ?_
      cases o2 with
      | none =>
        as_aux_lemma =>
        rintro e w4 ⟨b4, rfl⟩
        have B4 := Lib.hid (B3.out.trans (b4.mono B3.out.size))
        clear b4
        go_wp2_with fail
        go_ret
        exact ⟨rfl, B4.out.alloc B4.out.size _⟩
      | some q2 =>
        intro e w4 h4
        obtain ⟨b4, rfl⟩ := spec_is h4
        have I4 := Lib.hid (I3b.out.keep b4)
        have B4 := Lib.hid (B3.out.trans (b4.mono B3.out.size))
        clear b4 h4 I3b B3 CP
        cases q2 with
        | none =>
          as_aux_lemma =>
          go_wp2_with fail
          go_ret
          exact ⟨rfl, B4.out.alloc B4.out.size _⟩
        | some v2 =>
          go_upto_region 9 with fail
          obtain ⟨g6, hg6⟩ : ∃ g, w4.heap.size = g := ⟨_, rfl⟩
          have hI6 : IsV (w4.alloc (.cells v2.cells 23)) g6 v2 := heap_new _ _ _ hg6.symm
          have hI3 : IsV (w4.alloc (.cells v2.cells 23)) g3 v := I4.out.keep ((Below.refl _ _).alloc (Nat.le_refl _) _)
          have hB5 : Below W.heap.size W (w4.alloc (.cells v2.cells 23)) := B4.out.alloc B4.out.size _
          obtain ⟨W5, hW5⟩ : ∃ x, w4.alloc (.cells v2.cells 23) = x := ⟨_, rfl⟩
          change Code.wp _ _ _ _ (w4.alloc (.cells v2.cells 23))
          rw [hg6]
          rw [hW5] at hI6 hI3 hB5 ⊢
          have I6 := Lib.hid hI6
          have I3 := Lib.hid hI3
          have B5 := Lib.hid hB5
          have ne := run_neq23 v2 v W5
          obtain ⟨c, HC⟩ : ∃ c, Hid ((!eqV v2 v) = c) := ⟨_, Lib.hid rfl⟩
          rw [HC.out] at ne
          clear hg6 hW5 hI6 hI3 hB5 I4 B4
          cases c
          case true =>
            as_aux_lemma =>
            go_wp2_with (first | (refine wpl_loadVg (wanted_on rfl rfl rfl rfl) _ rfl _ _ rfl I6.out ?_) | (refine wpl_loadVg (wanted_on rfl rfl rfl rfl) _ rfl _ _ rfl I3.out ?_) | (refine wpl_neqVg (wanted_on rfl rfl rfl rfl) _ _ rfl _ _ _ rfl rfl HC.out ?_))
            all_goals
              go_ret
              exact ⟨rfl, B5.out⟩
          case false =>
            have he : eqV v2 v = true := by have := HC.out; simpa using this
            obtain rfl := eqV_true he
            clear he
            go_upto_if 48 with (first | (refine wpl_loadVg (wanted_on rfl rfl rfl rfl) _ rfl _ _ rfl I6.out ?_) | (refine wpl_loadVg (wanted_on rfl rfl rfl rfl) _ rfl _ _ rfl I3.out ?_) | (refine wpl_neqVg (wanted_on rfl rfl rfl rfl) _ _ rfl _ _ _ rfl rfl HC.out ?_))
            clear ne I6 I3
            have CR := Lib.hid (t_Parse s _ W5 (by omega) (HT.out.below B5.out) HO.out)
            go_wp2_with fail
            refine CR.out.mono ?_
            intro e w6 h6
            obtain ⟨b6, rfl⟩ := read_is h6
            have B6 := Lib.hid (B5.out.trans (b6.mono B5.out.size))
            clear b6 h6 CR B5
            go_upto_region 12 with fail
            obtain ⟨g9, hg9⟩ : ∃ g, w6.heap.size = g := ⟨_, rfl⟩
            have hI9 : IsV (w6.alloc (.cells v2.cells 23)) g9 v2 := heap_new _ _ _ hg9.symm
            have hB7 : Below W.heap.size W (w6.alloc (.cells v2.cells 23)) := B6.out.alloc B6.out.size _
            obtain ⟨W7, hW7⟩ : ∃ x, w6.alloc (.cells v2.cells 23) = x := ⟨_, rfl⟩
            change Code.wp _ _ _ _ (w6.alloc (.cells v2.cells 23))
            rw [hg9]
            rw [hW7] at hI9 hB7 ⊢
            have I9 := Lib.hid hI9
            have B7 := Lib.hid hB7
            have CX := Lib.hid (t_text v2 W7 (HSM.out.mono (by decide)) HFA.out (HT.out.below hB7))
            clear hg9 hW7 hI9 hB7 B6
            go_wp2_with (refine wpl_loadV rfl _ rfl _ _ rfl I9.out ?_)
            refine CX.out.mono ?_
            rintro e w8 ⟨rfl, b8⟩
            rw [HTX.out]
            have I9b := Lib.hid (I9.out.keep b8)
            have B8 := Lib.hid (B7.out.trans (b8.mono B7.out.size))
            clear b8 I9 B7 CX
            have CR := Lib.hid (t_Parse t _ w8 HTZ.out (HT.out.below B8.out) HO2.out)
            go_wp2_with fail
            refine CR.out.mono ?_
            intro e w9 h9
            obtain ⟨b9, rfl⟩ := read_is h9
            have I9c := Lib.hid (I9b.out.keep b9)
            have B9 := Lib.hid (B8.out.trans (b9.mono B8.out.size))
            clear b9 h9 CR B8 I9b
            go_upto_region 13 with fail
            obtain ⟨gb, hgb⟩ : ∃ g, w9.heap.size = g := ⟨_, rfl⟩
            have hIb : IsV (w9.alloc (.cells v2.cells 23)) gb v2 := heap_new _ _ _ hgb.symm
            have hI9 : IsV (w9.alloc (.cells v2.cells 23)) g9 v2 := I9c.out.keep ((Below.refl _ _).alloc (Nat.le_refl _) _)
            have hBa : Below W.heap.size W (w9.alloc (.cells v2.cells 23)) := B9.out.alloc B9.out.size _
            obtain ⟨Wa, hWa⟩ : ∃ x, w9.alloc (.cells v2.cells 23) = x := ⟨_, rfl⟩
            change Code.wp _ _ _ _ (w9.alloc (.cells v2.cells 23))
            rw [hgb]
            rw [hWa] at hIb hI9 hBa ⊢
            have IB := Lib.hid hIb
            have I9 := Lib.hid hI9
            have BA := Lib.hid hBa
            have eq := run_eql23 v2 v2 Wa
            rw [eqV_same] at eq
            have CA := Lib.hid (c_alive Wa (HT.out.below hBa))
            clear hgb hWa hIb hI9 hBa I9c B9
            go_wp2_with (first | (refine wpl_loadVg (wanted_on rfl rfl rfl rfl) _ rfl _ _ rfl I9.out ?_) | (refine wpl_loadVg (wanted_on rfl rfl rfl rfl) _ rfl _ _ rfl IB.out ?_))
            refine CA.out.mono ?_
            rintro e wb ⟨rfl, bb⟩
            have BB := Lib.hid (BA.out.trans (bb.mono BA.out.size))
            clear bb
            go_wp2_with fail
            go_ret
            exact ⟨rfl, BB.out⟩
end Go.Proofs.YtphkohpphdcjhaaGreatDoor
