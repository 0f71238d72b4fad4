/- The walk of the statement FnJoinText. -/
import Derived.Test.YtphkohpphdcjhaaGreatDoorTImplJS
import Derived.Test.YtphkohpphdcjhaaGreatDoorTJB
import Derived.Test.YtphkohpphdcjhaaGreatDoorTSpecJ
import Derived.Test.YtphkohpphdcjhaaGreatDoorTK12
set_option linter.unusedVariables false
set_option linter.unusedSimpArgs false
namespace Go.Proofs.YtphkohpphdcjhaaGreatDoor
open Go.RowKit Go.Proofs.YtphkohpphdcjhaaGreatDoorW.PrintWords Go.Proofs.YtphkohpphdcjhaaGreatDoorW.PrintLast
open U (L S)

set_option maxRecDepth 100000 in
set_option maxHeartbeats 6400000 in
theorem walk_FnJoinText (s : ByteArray) (l : List U.B) (p : Option Addr) (n cap : Nat) (W : World) (hs : s.size ≤ 9223372036854775807) (hn : n ≤ 9223372036854775807) (hL : ArgL W l p n) (hnil : p = none → n = 0 ∧ cap = 0) (hT : Tab W) : Calls Tryz.prog 11 #[.string s, .slice p n cap] W (Yes W) := by
  have HT := Lib.hid hT
  have HL := Lib.hid hL
  have HN := Lib.hid hnil
  clear hT hL hnil
  by_cases h1 : 2147483647 < (s.size : Int)
  · go_enter Tryz.func11, Tryz.ntmps11
    go_wp2_with fail
    go_ret
    exact ⟨rfl, Below.refl _ _⟩
  have CZ := Lib.hid (c_zzFits2 W l p n cap hn HL.out)
  go_enter Tryz.func11, Tryz.ntmps11
  go_wp2_with fail
  refine CZ.out.mono ?_
  rintro e W ⟨⟨b, rfl⟩, rfl⟩
  clear CZ
  cases b
  · go_wp2_with fail
    go_ret
    exact ⟨rfl, Below.refl _ _⟩
  by_cases h3 : 300 < (s.size : Int)
  · go_wp2_with fail
    go_ret
    exact ⟨rfl, Below.refl _ _⟩
  by_cases h10 : 10 < (n : Int)
  · go_wp2_with fail
    go_ret
    exact ⟨rfl, Below.refl _ _⟩
  have HZ := Lib.hid (show s.size ≤ 300 by omega)
  have hn10 : n ≤ 10 := by omega
  go_wp2_with fail
  go_loop [32] (fun i => ∃ k : Nat, k ≤ n ∧ i = .int .i64 k ∧ ∀ j, j < k → (l.getD j []).length ≤ 50) (fun i => n - (intOf i).toNat)
  case atStart => exact ⟨0, Nat.zero_le _, rfl, fun j hj => absurd hj (Nat.not_lt_zero _)⟩
  case round =>
    obtain ⟨k, hk, rfl, hA⟩ := hrel
    have HA := Lib.hid hA
    clear hA
    by_cases hlt : k < n
    · obtain ⟨gl, off, rfl, hgl, hcl⟩ := HL.out.at_ (by omega)
      have c0 := hcl k hlt
      obtain ⟨t, HT1⟩ : ∃ t, Hid (S (l.getD k []) = t) := ⟨_, Lib.hid rfl⟩
      rw [HT1.out] at c0
      clear hcl hgl
      by_cases ht : 50 < (t.size : Int)
      · go_wp2_with fail
        go_ret
        exact ⟨rfl, Below.refl _ _⟩
      · go_wp2_with fail
        go_round
        case rel =>
          refine ⟨k + 1, by omega, by go_num, fun j hj => ?_⟩
          by_cases hjk : j < k
          · exact HA.out j hjk
          · have : j = k := by omega
            subst this
            have := U.size_S (l.getD j [])
            rw [HT1.out] at this
            omega
        case measure => simp [intOf]; omega
    · have hkn : k = n := by omega
      subst hkn
      have HLE : Hid (∀ e ∈ l, e.length ≤ 50) := Lib.hid fun e he => by
        obtain ⟨j, hj, rfl⟩ := List.getElem_of_mem he
        have h1 := HL.out.len
        have := HA.out j (by omega)
        rwa [List.getD, List.getElem?_eq_getElem hj] at this
      clear HA
      obtain ⟨o, HO⟩ : ∃ o, Hid (U.parse (L s) false = o) := ⟨_, Lib.hid rfl⟩
      have cp := c_Parse W s false (by have := HZ.out; omega)
      rw [HO.out] at cp
      have CP := Lib.hid cp
      clear cp
      go_wp2_with fail
      refine CP.out.mono ?_
      intro e w1 hp
      obtain ⟨b1, rfl⟩ := spec_any hp
      obtain ⟨u1, HU1⟩ : ∃ u, Hid ((o.getD none).getD V.zero = u) := ⟨_, Lib.hid rfl⟩
      obtain ⟨k1, HK1⟩ : ∃ k, Hid (okOf o = k) := ⟨_, Lib.hid rfl⟩
      obtain ⟨t1, HT1⟩ : ∃ t, Hid (o.isSome = t) := ⟨_, Lib.hid rfl⟩
      rw [HU1.out, HK1.out, HT1.out]
      have B1 := Lib.hid b1
      clear hp b1 CP
      cases t1
      · go_wp2_with (refine wpl_storeV rfl _ _ rfl _ V.zero u1 rfl rfl (heap_new _ _ _ rfl) ?_; intro wR hR oR)
        have B2 : Below W.heap.size W wR := Only.below (B1.out.alloc B1.out.size _) oR (by have := B1.out.size; simp; omega) B1.out.size
        go_ret
        exact ⟨rfl, B2⟩
      obtain ⟨q, hq⟩ := Option.isSome_iff_exists.1 HT1.out
      subst hq
      have HS1 : Hid (u1.Sm 300) := by
        rw [← HU1.out]
        cases q with
        | none => exact Lib.hid (by constructor <;> decide)
        | some b => exact Lib.hid (parse_short HZ.out HO.out)
      go_wp2_with (first | (refine wpl_storeV rfl _ _ rfl _ V.zero u1 rfl rfl (heap_new _ _ _ rfl) ?_; intro wR hR oR) | refine wpl_loadV rfl _ rfl _ _ rfl hR ?_)
      have N1 : Hid (Below W.heap.size W wR ∧ IsV wR w1.heap.size u1) := Lib.hid ⟨Only.below (B1.out.alloc B1.out.size _) oR (by have := B1.out.size; simp; omega) B1.out.size, hR⟩
      clear oR hR B1
      obtain ⟨g7, hg7⟩ : ∃ x, w1.heap.size = x := ⟨_, rfl⟩
      rw [hg7] at N1 ⊢
      clear hg7
      have CJ := Lib.hid (c_Join wR u1 l p k cap (HS1.out.mono (by decide)) hn10 HLE.out (HL.out.keep N1.out.1))
      obtain ⟨j, HJ⟩ : ∃ j, Hid (U.join u1 l = j) := ⟨_, Lib.hid rfl⟩
      rw [HJ.out] at CJ
      refine CJ.out.mono ?_
      rintro e w3 ⟨rfl, b3⟩
      have B3 := Lib.hid (N1.out.1.trans (b3.mono N1.out.1.size))
      clear b3 CJ N1
      go_wp2_with (refine wpl_storeV rfl _ _ rfl _ V.zero j.1 rfl rfl (heap_new _ _ _ rfl) ?_; intro wS hS oS)
      have N4 : Hid (Below W.heap.size W wS ∧ IsV wS w3.heap.size j.1) := Lib.hid ⟨Only.below (B3.out.alloc B3.out.size _) oS (by have := B3.out.size; simp; omega) B3.out.size, hS⟩
      clear oS hS B3
      obtain ⟨g10, hg10⟩ : ∃ x, w3.heap.size = x := ⟨_, rfl⟩
      rw [hg10] at N4 ⊢
      clear hg10
      have CT := Lib.hid (t_joinText s q wS l p k cap HZ.out hn10 HLE.out (HL.out.keep N4.out.1) HN.out (HT.out.below N4.out.1) HO.out (fun v hv => by
        subst hv
        exact join_sm (parse_short HZ.out HO.out) (by rw [HL.out.len]; exact hn10) HLE.out))
      have CA : ∀ w, Below W.heap.size W w → Hid (Calls Tryz.prog 14 #[] w fun e w' => e = .returned (.bool true) ∧ Below w.heap.size w w') := fun w hb => Lib.hid (c_alive w (HT.out.below hb))
      have CA2 := Lib.hid CA
      clear CA
      go_wp2_with fail
      refine CT.out.mono ?_
      rintro e w5 ⟨rfl, b5⟩
      have B5 := Lib.hid (N4.out.1.trans (b5.mono N4.out.1.size))
      have J5 := Lib.hid (N4.out.2.keep b5)
      clear b5 CT N4
      cases q with
      | none =>
        have hk : k1 = false := HK1.out.symm
        subst hk
        have C14 := CA2.out w5 B5.out
        rw [show (toldJ none l).1 = E from rfl, show (toldJ none l).2 = false from rfl]
        go_wp2_with fail
        refine C14.out.mono ?_
        rintro e w6 ⟨rfl, b6⟩
        have B6 := Lib.hid (B5.out.trans (b6.mono B5.out.size))
        clear b6
        go_wp2_with fail
        go_ret
        exact ⟨rfl, B6.out⟩
      | some b =>
        have hk : k1 = true := HK1.out.symm
        subst hk
        have hu1 : u1 = b := HU1.out.symm
        subst hu1
        have ht : toldJ (some u1) l = if j.2 = true then (S (U.text j.1), true) else (E, false) := by rw [← HJ.out]; rfl
        obtain ⟨ok, HOK⟩ : ∃ x, Hid (j.2 = x) := ⟨_, Lib.hid rfl⟩
        rw [ht, HOK.out]
        clear ht
        cases ok
        · have C14 := CA2.out w5 B5.out
          rw [show (if false = true then (S (U.text j.1), true) else (E, false)) = (E, false) from rfl]
          go_wp2_with fail
          refine C14.out.mono ?_
          rintro e w6 ⟨rfl, b6⟩
          have B6 := Lib.hid (B5.out.trans (b6.mono B5.out.size))
          clear b6
          go_wp2_with fail
          go_ret
          exact ⟨rfl, B6.out⟩
        · have HSJ : Hid (j.1.Sm 4000) := Lib.hid (by
            rw [← HJ.out]
            exact join_sm (parse_short HZ.out HO.out) (by rw [HL.out.len]; exact hn10) HLE.out)
          obtain ⟨t, HTX⟩ : ∃ t, Hid (S (U.text j.1) = t) := ⟨_, Lib.hid rfl⟩
          rw [show (if true = true then (S (U.text j.1), true) else (E, false)) = (S (U.text j.1), true) from rfl, HTX.out]
          have CX := Lib.hid (c_text w5 j.1 HSJ.out)
          rw [HTX.out] at CX
          go_wp2_with (refine wpl_loadVg (wanted_on rfl rfl rfl rfl) _ rfl _ _ rfl J5.out ?_)
          refine CX.out.mono ?_
          rintro e w7 ⟨rfl, b7⟩
          have B7 := Lib.hid (B5.out.trans (b7.mono B5.out.size))
          clear b7 CX
          have C14 := CA2.out w7 B7.out
          go_wp2_with fail
          refine C14.out.mono ?_
          rintro e w8 ⟨rfl, b8⟩
          have B8 := Lib.hid (B7.out.trans (b8.mono B7.out.size))
          clear b8
          go_wp2_with fail
          go_ret
          exact ⟨rfl, B8.out⟩
end Go.Proofs.YtphkohpphdcjhaaGreatDoor
