/- The walk of the statement FnResolveText. -/
import Derived.Test.YtphkohpphdcjhaaGreatDoorTImplX
import Derived.Test.YtphkohpphdcjhaaGreatDoorTSpecJ
import Derived.Test.YtphkohpphdcjhaaGreatDoorTK12
set_option linter.unusedVariables false
namespace Go.Proofs.YtphkohpphdcjhaaGreatDoor
open Go.RowKit Go.Proofs.YtphkohpphdcjhaaGreatDoorW.PrintWords Go.Proofs.YtphkohpphdcjhaaGreatDoorW.PrintLast
open U (L S)

def okOf : Option (Option V) → Bool
  | some none => false
  | _ => true
theorem spec_any {W w' : World} {o : Option (Option V)} {e : Ending} (h : SpecP W o e w') : Below W.heap.size W w' ∧ e = .returned (.tuple #[((o.getD none).getD V.zero).val, .bool (okOf o), .bool o.isSome]) := by
  match o, h with
  | none, h => exact h
  | some none, h => exact h
  | some (some v), h => exact h
/-- A new reference in its block, beside another. -/
theorem new_V {W w : World} (hb : Below W.heap.size W w) (v : V) : Below W.heap.size W (w.alloc (.cells v.cells 23)) ∧ IsV (w.alloc (.cells v.cells 23)) w.heap.size v := ⟨hb.alloc hb.size _, heap_new _ _ _ rfl⟩
theorem kept_V {w : World} {g : Nat} {u : V} (h : IsV w g u) (v : V) : IsV (w.alloc (.cells v.cells 23)) g u := h.keep ((Below.refl _ _).alloc (Nat.le_refl _) _)

set_option maxRecDepth 100000 in
set_option maxHeartbeats 6400000 in
theorem walk_FnResolveText (s1 s2 : ByteArray) (W : World) (hs1 : s1.size ≤ 9223372036854775807) (hs2 : s2.size ≤ 9223372036854775807) (hT : Tab W) : Calls Tryz.prog 10 #[.string s1, .string s2] W (Yes W) := by
  have HT := Lib.hid hT
  clear hT
  by_cases h1 : 2147483647 < (s1.size : Int)
  · go_enter Tryz.func10, Tryz.ntmps10
    go_wp2_with fail
    go_ret
    exact ⟨rfl, Below.refl _ _⟩
  by_cases h2 : 2147483647 < (s2.size : Int)
  · go_enter Tryz.func10, Tryz.ntmps10
    go_wp2_with fail
    go_ret
    exact ⟨rfl, Below.refl _ _⟩
  by_cases h3 : 300 < (s1.size : Int)
  · go_enter Tryz.func10, Tryz.ntmps10
    go_wp2_with fail
    go_ret
    exact ⟨rfl, Below.refl _ _⟩
  by_cases h4 : 300 < (s2.size : Int)
  · go_enter Tryz.func10, Tryz.ntmps10
    go_wp2_with fail
    go_ret
    exact ⟨rfl, Below.refl _ _⟩
  obtain ⟨o1, HO1⟩ : ∃ o, Hid (U.parse (L s1) false = o) := ⟨_, rfl⟩
  obtain ⟨o2, HO2⟩ : ∃ o, Hid (U.parse (L s2) false = o) := ⟨_, rfl⟩
  have hz1 : s1.size ≤ 300 := by omega
  have hz2 : s2.size ≤ 300 := by omega
  have HZ := Lib.hid (show s1.size ≤ 300 ∧ s2.size ≤ 300 from ⟨hz1, hz2⟩)
  clear hz1 hz2
  have cp := c_Parse W s1 false (by omega)
  rw [HO1.out] at cp
  have CP := Lib.hid cp
  clear cp
  go_enter Tryz.func10, Tryz.ntmps10
  go_wp2_with fail
  refine CP.out.mono ?_
  intro e w1 hp
  obtain ⟨b1, rfl⟩ := spec_any hp
  obtain ⟨u1, HU1⟩ : ∃ u, Hid ((o1.getD none).getD V.zero = u) := ⟨_, Lib.hid rfl⟩
  obtain ⟨k1, HK1⟩ : ∃ k, Hid (okOf o1 = k) := ⟨_, Lib.hid rfl⟩
  obtain ⟨t1, HT1⟩ : ∃ t, Hid (o1.isSome = t) := ⟨_, Lib.hid rfl⟩
  rw [HU1.out, HK1.out, HT1.out]
  have N1 := Lib.hid (new_V b1 u1)
  clear hp b1 CP
  go_upto_region 6 with fail
  change Code.wp _ _ _ _ (w1.alloc (.cells u1.cells 23))
  obtain ⟨W2, hW2⟩ : ∃ x, w1.alloc (.cells u1.cells 23) = x := ⟨_, rfl⟩
  obtain ⟨g5, hg5⟩ : ∃ x, w1.heap.size = x := ⟨_, rfl⟩
  rw [hW2, hg5] at N1
  rw [hW2, hg5]
  clear hW2 hg5
  have cp := c_Parse W2 s2 false (by have := HZ.out.2; omega)
  rw [HO2.out] at cp
  have CP := Lib.hid cp
  clear cp
  go_wp2_with fail
  refine CP.out.mono ?_
  intro e w3 hp
  obtain ⟨b3, rfl⟩ := spec_any hp
  obtain ⟨u2, HU2⟩ : ∃ u, Hid ((o2.getD none).getD V.zero = u) := ⟨_, Lib.hid rfl⟩
  obtain ⟨k2, HK2⟩ : ∃ k, Hid (okOf o2 = k) := ⟨_, Lib.hid rfl⟩
  obtain ⟨t2, HT2⟩ : ∃ t, Hid (o2.isSome = t) := ⟨_, Lib.hid rfl⟩
  rw [HU2.out, HK2.out, HT2.out]
  have N2 := Lib.hid (new_V (N1.out.1.trans (b3.mono N1.out.1.size)) u2)
  have I5 := Lib.hid (kept_V (N1.out.2.keep b3) u2)
  clear hp b3 CP N1
  go_upto_region 7 with fail
  change Code.wp _ _ _ _ (w3.alloc (.cells u2.cells 23))
  obtain ⟨W4, hW4⟩ : ∃ x, w3.alloc (.cells u2.cells 23) = x := ⟨_, rfl⟩
  obtain ⟨g8, hg8⟩ : ∃ x, w3.heap.size = x := ⟨_, rfl⟩
  rw [hW4, hg8] at N2
  rw [hW4] at I5
  rw [hW4, hg8]
  clear hW4 hg8
  cases t1
  · go_wp2_with fail
    go_ret
    exact ⟨rfl, N2.out.1⟩
  cases t2
  · go_wp2_with fail
    go_ret
    exact ⟨rfl, N2.out.1⟩
  obtain ⟨q1, hq1⟩ := Option.isSome_iff_exists.1 HT1.out
  obtain ⟨q2, hq2⟩ := Option.isSome_iff_exists.1 HT2.out
  subst hq1 hq2
  have CR := Lib.hid (t_resolveText s1 s2 q1 q2 W4 HZ.out.1 HZ.out.2 (HT.out.below N2.out.1) HO1.out HO2.out)
  go_wp2_with fail
  refine CR.out.mono ?_
  rintro e w5 ⟨rfl, b5⟩
  have B5 := Lib.hid (N2.out.1.trans (b5.mono N2.out.1.size))
  have J5 := Lib.hid (I5.out.keep b5)
  have J8 := Lib.hid (N2.out.2.keep b5)
  clear b5 CR I5 N2
  have CA : ∀ w, Below W.heap.size W w → Hid (Calls Tryz.prog 14 #[] w fun e w' => e = .returned (.bool true) ∧ Below w.heap.size w w') := fun w hb => Lib.hid (c_alive w (HT.out.below hb))
  have CA2 := Lib.hid CA
  clear CA
  cases q1 with
  | none =>
    have hk : k1 = false := HK1.out.symm
    subst hk
    have C14 := CA2.out w5 B5.out
    go_wp2_with fail
    refine C14.out.mono ?_
    rintro e w6 ⟨rfl, b6⟩
    have B6 := Lib.hid (B5.out.trans (b6.mono B5.out.size))
    clear b6
    go_wp2_with fail
    go_ret
    exact ⟨rfl, B6.out⟩
  | some b =>
    have hk : k1 = true := HK1.out.symm
    subst hk
    cases q2 with
    | none =>
      have hk : k2 = false := HK2.out.symm
      subst hk
      have C14 := CA2.out w5 B5.out
      go_wp2_with fail
      refine C14.out.mono ?_
      rintro e w6 ⟨rfl, b6⟩
      have B6 := Lib.hid (B5.out.trans (b6.mono B5.out.size))
      clear b6
      go_wp2_with fail
      go_ret
      exact ⟨rfl, B6.out⟩
    | some r =>
      have hk : k2 = true := HK2.out.symm
      subst hk
      have hu1 : u1 = b := HU1.out.symm
      have hu2 : u2 = r := HU2.out.symm
      subst hu1 hu2
      have hb := parse_short HZ.out.1 HO1.out
      have hr := parse_short HZ.out.2 HO2.out
      have HB := Lib.hid hb
      have HR := Lib.hid hr
      have HS := Lib.hid (resolve_sm hb hr)
      obtain ⟨v, HV⟩ : ∃ v, Hid (U.resolve u1 u2 = v) := ⟨_, Lib.hid rfl⟩
      obtain ⟨t, HTX⟩ : ∃ t, Hid (S (U.text v) = t) := ⟨_, Lib.hid rfl⟩
      rw [HV.out] at HS
      have CRV := Lib.hid (c_Resolve w5 u1 u2 (HB.out.mono (by decide)) (HR.out.mono (by decide)))
      rw [HV.out] at CRV
      rw [show (toldR (some u1) (some u2)).1 = t from by rw [← HTX.out, ← HV.out]; rfl, show (toldR (some u1) (some u2)).2 = true from rfl]
      clear hb hr
      go_wp2_with (first | (refine wpl_loadVg (wanted_on rfl rfl rfl rfl) _ rfl _ _ rfl J5.out ?_) | (refine wpl_loadVg (wanted_on rfl rfl rfl rfl) _ rfl _ _ rfl J8.out ?_))
      refine CRV.out.mono ?_
      rintro e w6 ⟨rfl, b6⟩
      have B6 := Lib.hid (B5.out.trans (b6.mono B5.out.size))
      clear b6 CRV J5 J8
      have CT := Lib.hid (c_text w6 v HS.out)
      rw [HTX.out] at CT
      go_wp2_with fail
      refine CT.out.mono ?_
      rintro e w7 ⟨rfl, b7⟩
      have B7 := Lib.hid (B6.out.trans (b7.mono B6.out.size))
      clear b7 CT
      have C14 := CA2.out w7 B7.out
      go_wp2_with fail
      refine C14.out.mono ?_
      rintro e w8 ⟨rfl, b8⟩
      have B8 := Lib.hid (B7.out.trans (b8.mono B7.out.size))
      clear b8
      go_wp2_with fail
      go_ret
      exact ⟨rfl, B8.out⟩
end Go.Proofs.YtphkohpphdcjhaaGreatDoor
