/- The walk of the statement FnJoin. -/
import Derived.Test.YtphkohpphdcjhaaGreatDoorImplZ
import Derived.Test.YtphkohpphdcjhaaGreatDoorKeep2
import Derived.Test.YtphkohpphdcjhaaGreatDoorImplW
set_option linter.unusedVariables false
set_option linter.unusedSimpArgs false
namespace Go.Proofs.YtphkohpphdcjhaaGreatDoor
open Go.RowKit Go.Proofs.YtphkohpphdcjhaaGreatDoorW.PrintWords Go.Proofs.YtphkohpphdcjhaaGreatDoorW.PrintLast
open U (L S)

theorem guardE23j (x y : Operand) (v u : V) (w : World) : (eqGuard .eql 23 x y v.val u.val).run Tryz.prog w = .ok () w := by
  have h : Tryz.prog.eqGuardType Tryz.prog.depth 23 = false := by kernel_rfl
  unfold eqGuard
  simp [go_sem, h]
theorem q_eqlVj {C : World → Prop} {Q : Act → Prop} {a : Act} {o : Oper} {rest : List Oper} {ops : Array Oper} (hw : Region.wanted o (yielded ops a.tmps) = true) (x y : Operand) (ho : o.op = .binOp .eql 23 x y 23)
    (v u : V) (c : Bool) (hx : a.eval x = v.val) (hy : a.eval y = u.val) (hc : eqV v u = c) (h : wpQuiet Tryz.prog ops C Q rest (a.put o.dst (.bool c))) : wpQuiet Tryz.prog ops C Q (o :: rest) a :=
  BigFrame.wpQuiet_want hw fun _ hK => ⟨.bool c, fun w _ => by
    have := run_eql23 v u w
    rw [hc] at this
    unfold Oper.quietAt execOp
    simp only [ho, hx, hy, Sem.run_bind, Sem.run_pure, guardE23j, Result.andThen_ok, this]
    exact ⟨rfl, rfl⟩, hK _ h⟩
set_option maxRecDepth 100000 in
set_option maxHeartbeats 1600000 in
theorem c_zzFits2 (W : World) (l : List U.B) (p : Option Addr) (n cap : Nat) (hn : n ≤ 9223372036854775807) (hL : ArgL W l p n) :
    Calls Tryz.prog 30 #[.slice p n cap] W fun e w' => (∃ b, e = .returned (.bool b)) ∧ w' = W := by
  have HL := Lib.hid hL
  clear hL
  by_cases hn2 : 2147483647 < (n : Int)
  · go_enter Tryz.func30, Tryz.ntmps30
    go_wp2_with fail
    go_ret
    exact ⟨⟨_, rfl⟩, rfl⟩
  go_enter Tryz.func30, Tryz.ntmps30
  go_wp2_with fail
  go_loop [10] (fun i => ∃ k : Nat, k ≤ n ∧ i = .int .i64 k) (fun i => n - (intOf i).toNat)
  case atStart => exact ⟨0, Nat.zero_le _, rfl⟩
  case round =>
    obtain ⟨k, hk, rfl⟩ := hrel
    by_cases hlt : k < n
    · obtain ⟨gl, off, rfl, hgl, hcl⟩ := HL.out.at_ (by omega)
      have c0 := hcl k hlt
      obtain ⟨t, HT⟩ : ∃ t, Hid (S (l.getD k []) = t) := ⟨_, Lib.hid rfl⟩
      rw [HT.out] at c0
      clear hcl hgl
      by_cases ht : 2147483647 < (t.size : Int)
      · go_wp2_with fail
        go_ret
        first | exact ⟨.inl rfl, rfl⟩ | exact ⟨.inr rfl, rfl⟩
      · go_wp2_with fail
        go_round
        case rel => exact ⟨k + 1, by omega, by go_num⟩
        case measure => simp [intOf]; omega
    · go_wp2_with fail
      go_ret
      first | exact ⟨.inl rfl, rfl⟩ | exact ⟨.inr rfl, rfl⟩

set_option maxRecDepth 100000 in
set_option maxHeartbeats 6400000 in
theorem walk_FnJoin (v : V) (l : List U.B) (p : Option Addr) (n cap : Nat) (W : World) (hv : v.Sm 9223372036854775807) (hn : n ≤ 9223372036854775807) (hL : ArgL W l p n) (hnil : p = none → n = 0 ∧ cap = 0) (hT : Tab W) : Calls Tryz.prog 9 #[v.val, .slice p n cap] W (Yes W) := by
  have hB : Below W.heap.size W (W.alloc (.cells v.cells 23)) := (Below.refl _ _).alloc (Nat.le_refl _) _
  have hI : IsV (W.alloc (.cells v.cells 23)) W.heap.size v := heap_new _ _ _ rfl
  have HV := Lib.hid hv
  have HK : Hid (Keeps W W.heap.size v (W.alloc (.cells v.cells 23))) := Lib.hid ⟨hI, hT.below hB, hB⟩
  have HL := Lib.hid hL
  have HN := Lib.hid hnil
  clear hB hI hv hT hL hnil
  go_enter Tryz.func9, Tryz.ntmps9
  go_upto_region 1 with fail
  change Code.wp _ _ _ _ (W.alloc (.cells v.cells 23))
  obtain ⟨W1, hW1⟩ : ∃ x, W.alloc (.cells v.cells 23) = x := ⟨_, rfl⟩
  rw [hW1] at HK ⊢
  clear hW1
  have CF := Lib.hid (c_zzFits v W1 HV.out)
  obtain ⟨g, hg⟩ : ∃ g, W.heap.size = g := ⟨_, rfl⟩
  rw [hg] at HK ⊢
  have HG := Lib.hid hg
  clear hg
  go_wp2_with (refine wpl_loadV rfl _ rfl _ _ rfl HK.out.1 ?_)
  refine CF.out.mono ?_
  rintro e w2 ⟨b, rfl, hb, b2⟩
  have K2 := Lib.hid (HK.out.next b2)
  have HBS := Lib.hid hb
  clear b2 hb HK CF
  cases b
  · go_wp2_with fail
    go_ret
    exact ⟨rfl, K2.out.2.2⟩
  have HS := Lib.hid (HBS.out rfl)
  clear HBS
  have CZ := Lib.hid (c_zzFits2 w2 l p n cap hn (HL.out.keep K2.out.2.2))
  go_wp2_with fail
  refine CZ.out.mono ?_
  rintro e w3 ⟨⟨b, rfl⟩, rfl⟩
  clear CZ
  cases b
  · go_wp2_with fail
    go_ret
    exact ⟨rfl, K2.out.2.2⟩
  have CS := Lib.hid (c_short v w3 HS.out)
  obtain ⟨sb, HSB⟩ : ∃ b, Hid (shortB v = b) := ⟨_, rfl⟩
  rw [HSB.out] at CS
  go_wp2_with (refine wpl_loadV rfl _ rfl _ _ rfl K2.out.1 ?_)
  refine CS.out.mono ?_
  rintro e w4 ⟨rfl, b4⟩
  have K4 := Lib.hid (K2.out.next b4)
  clear b4 CS K2
  cases sb
  · go_wp2_with fail
    go_ret
    exact ⟨rfl, K4.out.2.2⟩
  by_cases h10 : 10 < (n : Int)
  · go_wp2_with fail
    go_ret
    exact ⟨rfl, K4.out.2.2⟩
  have HL4 := Lib.hid (HL.out.keep K4.out.2.2)
  go_wp2_with fail
  have hs := shortB_ok HSB.out
  have hs4 : v.Sm 4000 := hs.1.mono (by decide)
  have hvf := hs.2
  have hn10 : n ≤ 10 := by omega
  have H4 := Lib.hid hs4
  have HF4 := Lib.hid hvf
  have HLW := Lib.hid HL.out
  clear hs hs4 hvf HS HSB
  go_loop [27] (fun i => ∃ k : Nat, k ≤ n ∧ i = .int .i64 k ∧ ∀ j, j < k → (l.getD j []).length ≤ 50) (fun i => n - (intOf i).toNat)
  case atStart => exact ⟨0, Nat.zero_le _, rfl, fun j hj => absurd hj (Nat.not_lt_zero _)⟩
  case round =>
    obtain ⟨k, hk, rfl, hA⟩ := hrel
    have HA := Lib.hid hA
    clear hA
    by_cases hlt : k < n
    · obtain ⟨gl, off, rfl, hgl, hcl⟩ := HL4.out.at_ (by omega)
      have c0 := hcl k hlt
      obtain ⟨t, HT⟩ : ∃ t, Hid (S (l.getD k []) = t) := ⟨_, Lib.hid rfl⟩
      rw [HT.out] at c0
      clear hcl hgl
      by_cases ht : 50 < (t.size : Int)
      · go_wp2_with fail
        go_ret
        exact ⟨rfl, K4.out.2.2⟩
      · go_wp2_with fail
        go_round
        case rel =>
          refine ⟨k + 1, by omega, by go_num, fun j hj => ?_⟩
          by_cases hjk : j < k
          · exact HA.out j hjk
          · have : j = k := by omega
            subst this
            have := U.size_S (l.getD j [])
            rw [HT.out] at this
            omega
        case measure => simp [intOf]; omega
    · have hkn : k = n := by omega
      subst hkn
      have HLE : Hid (∀ e ∈ l, e.length ≤ 50) := Lib.hid fun e he => by
        obtain ⟨j, hj, rfl⟩ := List.getElem_of_mem he
        have h1 := HL4.out.len
        have := HA.out j (by omega)
        rwa [List.getD, List.getElem?_eq_getElem hj] at this
      clear HA
      have CJ := Lib.hid (c_Join w4 v l p k cap H4.out hn10 HLE.out HL4.out)
      obtain ⟨o, HO⟩ : ∃ o, Hid (U.join v l = o) := ⟨_, Lib.hid rfl⟩
      rw [HO.out] at CJ
      go_wp2_with (refine wpl_loadV rfl _ rfl _ _ rfl K4.out.1 ?_)
      refine CJ.out.mono ?_
      rintro e w5 ⟨rfl, b5⟩
      have HB5 := Lib.hid b5
      clear b5 CJ
      go_wp2_with (refine wpl_storeV rfl _ _ rfl _ V.zero o.1 rfl rfl (heap_new _ _ _ rfl) ?_; intro wR hR oR)
      have B6 : Below w4.heap.size w4 wR := Only.below (HB5.out.alloc HB5.out.size _) oR (by have := HB5.out.size; simp; omega) HB5.out.size
      have HK6 : Hid (Keeps2 W g v w5.heap.size o.1 wR) := Lib.hid ⟨K4.out.next B6, hR⟩
      clear B6 oR hR HB5
      obtain ⟨g7, hg7⟩ : ∃ x, w5.heap.size = x := ⟨_, rfl⟩
      rw [hg7] at HK6 ⊢
      clear hg7
      obtain ⟨ok, HOK⟩ : ∃ x, Hid (o.2 = x) := ⟨_, Lib.hid rfl⟩
      rw [HOK.out]
      cases ok
      · refine wp_region_class (Keeps2 W g v g7 o.1) (by kernel_rfl) HK6.out.drew ?_
        (repeat (first | go_big_quiet_skip | (go_big_quiet_want; go_big_quiet_op; first | go_big_quiet_on | (refine ⟨_, fun _ _ => rfl, ?_⟩; go_big_quiet_on))))
        refine wpQuiet_nil ?_
        intro w9 k9
        have K9 := Lib.hid k9
        clear k9
        go_wp2_with fail
        go_ret
        exact ⟨rfl, K9.out.1.2.2⟩
      · have C32 : Hid (∀ w, Keeps2 W g v g7 o.1 w → Calls Tryz.prog 32 #[v.val, .slice p k cap] w fun e w' => e = .returned o.1.val ∧ Keeps2 W g v g7 o.1 w') := Lib.hid fun w hw => hw.calls (by
          have := t_join w v l p k cap H4.out HF4.out hn10 HLE.out (HLW.out.keep hw.1.2.2) HN.out hw.1.2.1 (by rw [HO.out]; exact HOK.out)
          rwa [HO.out] at this)
        have C14 := Lib.hid fun w (hw : Keeps2 W g v g7 o.1 w) => hw.calls (c_alive w hw.1.2.1)
        refine wp_region_class (Keeps2 W g v g7 o.1) (by kernel_rfl) HK6.out.drew ?_
        (repeat (first | go_big_quiet_skip | (refine q_eqlVj rfl _ _ rfl o.1 o.1 true rfl rfl (eqV_same o.1) ?_; simp only [Act.put, List.setIfInBounds_toArray, List.set_cons_succ, List.set_cons_zero]) | (refine q_loadC g v (fun _ h => h.1.1) rfl _ rfl rfl ?_; simp only [Act.put, List.setIfInBounds_toArray, List.set_cons_succ, List.set_cons_zero]) | (refine q_loadC g7 o.1 (fun _ h => h.2) rfl _ rfl rfl ?_; simp only [Act.put, List.setIfInBounds_toArray, List.set_cons_succ, List.set_cons_zero]) | (go_big_quiet_want; go_big_quiet_op; first | go_big_quiet_on | (refine ⟨_, fun _ _ => rfl, ?_⟩; go_big_quiet_on) | go_big_quiet_call (first | with_reducible exact C32.out _ | with_reducible exact C14.out _))))
        refine wpQuiet_nil ?_
        intro w9 k9
        have K9 := Lib.hid k9
        clear k9
        go_wp2_with fail
        go_ret
        exact ⟨rfl, K9.out.1.2.2⟩
end Go.Proofs.YtphkohpphdcjhaaGreatDoor
