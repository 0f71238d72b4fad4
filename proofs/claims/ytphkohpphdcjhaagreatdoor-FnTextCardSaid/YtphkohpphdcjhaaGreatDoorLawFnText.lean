/- The walk of the statement FnText. -/
import Derived.Test.YtphkohpphdcjhaaGreatDoorK13
import Derived.Test.YtphkohpphdcjhaaGreatDoorImplS
import Derived.Test.YtphkohpphdcjhaaGreatDoorSpecJ
namespace Go.Proofs.YtphkohpphdcjhaaGreatDoor
open Go.RowKit Go.Proofs.YtphkohpphdcjhaaGreatDoorW.PrintWords Go.Proofs.YtphkohpphdcjhaaGreatDoorW.PrintLast
open U (L S)

set_option maxRecDepth 100000 in
set_option maxHeartbeats 6400000 in
theorem walk_FnText (v : V) (W : World) (hv : v.Sm 9223372036854775807) (hT : Tab W) : Calls Tryz.prog 6 #[v.val] W (Yes W) := by
  have hB : Below W.heap.size W (W.alloc (.cells v.cells 23)) := (Below.refl _ _).alloc (Nat.le_refl _) _
  have hI : IsV (W.alloc (.cells v.cells 23)) W.heap.size v := heap_new _ _ _ rfl
  have HV := Lib.hid hv
  have HK : Hid (Keeps W W.heap.size v (W.alloc (.cells v.cells 23))) := Lib.hid ⟨hI, hT.below hB, hB⟩
  clear hB hI hv hT
  go_enter Tryz.func6, Tryz.ntmps6
  go_upto_region 1 with fail
  change Code.wp _ _ _ _ (W.alloc (.cells v.cells 23))
  obtain ⟨W1, hW1⟩ : ∃ x, W.alloc (.cells v.cells 23) = x := ⟨_, rfl⟩
  rw [hW1] at HK ⊢
  clear hW1
  have CF := Lib.hid (c_zzFits v W1 HV.out)
  obtain ⟨g, hg⟩ : ∃ g, W.heap.size = g := ⟨_, rfl⟩
  rw [hg] at HK ⊢
  go_wp2_with (refine wpl_loadV rfl _ rfl _ _ rfl HK.out.1 ?_)
  refine CF.out.mono ?_
  rintro e w2 ⟨b, rfl, hb, b2⟩
  have K2 := Lib.hid (HK.out.next b2)
  have HBS := Lib.hid hb
  clear b2 hb HK CF
  cases b
  · go_wp2_with fail
    go_ret
    subst hg
    exact ⟨rfl, K2.out.2.2⟩
  have HS := Lib.hid (HBS.out rfl)
  clear HBS
  go_upto_region 3 with fail
  have C17 : Hid (∀ w, Keeps W g v w → Calls Tryz.prog 17 #[v.val] w fun e w' => e = .returned (.bool (shortB v)) ∧ Keeps W g v w') :=
    Lib.hid fun w hw => hw.calls (c_short v w HS.out)
  obtain ⟨sb, HSB⟩ : ∃ b, Hid (shortB v = b) := ⟨_, rfl⟩
  rw [HSB.out] at C17
  cases sb
  · refine wp_region_class (Keeps W g v) (by kernel_rfl) K2.out.drew ?_
    repeat (first | go_big_quiet_skip | (refine q_loadV rfl _ rfl rfl ?_; simp only [Act.put, List.setIfInBounds_toArray, List.set_cons_succ, List.set_cons_zero]) | (go_big_quiet_want; go_big_quiet_op; first | go_big_quiet_on | (refine ⟨_, fun _ _ => rfl, ?_⟩; go_big_quiet_on) | go_big_quiet_call (exact C17.out _)))
    refine wpQuiet_nil ?_
    intro w9 k9
    have K9 := Lib.hid k9
    clear k9
    go_wp2_with fail
    go_ret
    subst hg
    exact ⟨rfl, K9.out.2.2⟩
  · have hs := shortB_ok HSB.out
    have hs4 : v.Sm 4000 := hs.1.mono (by decide)
    have C26 := Lib.hid fun w (hw : Keeps W g v w) => hw.calls (t_text v w hs4 hs.2 hw.2.1)
    have C25 := Lib.hid fun w (hw : Keeps W g v w) => hw.calls (c_text w v hs4)
    have C14 := Lib.hid fun w (hw : Keeps W g v w) => hw.calls (c_alive w hw.2.1)
    generalize S (U.text v) = x1 at C26 C25
    clear hs hs4
    refine wp_region_class (Keeps W g v) (by kernel_rfl) K2.out.drew ?_
    (repeat (first | go_big_quiet_skip | (refine q_loadV rfl _ rfl rfl ?_; simp only [Act.put, List.setIfInBounds_toArray, List.set_cons_succ, List.set_cons_zero]) | (go_big_quiet_want; go_big_quiet_op; first | go_big_quiet_on | (refine ⟨_, fun _ _ => rfl, ?_⟩; go_big_quiet_on) | go_big_quiet_call (first | exact C17.out _ | exact C26.out _ | exact C25.out _ | exact C14.out _))))
    refine wpQuiet_nil ?_
    intro w9 k9
    have K9 := Lib.hid k9
    clear k9
    go_wp2_with fail
    go_ret
    subst hg
    exact ⟨rfl, K9.out.2.2⟩
end Go.Proofs.YtphkohpphdcjhaaGreatDoor
