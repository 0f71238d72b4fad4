/- The thin Text. -/
import Derived.Test.YtphkohpphdcjhaaGreatDoorImplR
namespace Go.Proofs.YtphkohpphdcjhaaGreatDoor
open Go.RowKit Go.Proofs.YtphkohpphdcjhaaGreatDoorW.PrintWords Go.Proofs.YtphkohpphdcjhaaGreatDoorW.PrintLast
open U (L S)

set_option maxRecDepth 100000 in
set_option maxHeartbeats 3200000 in
theorem t_text (v : V) (W : World) (hv : v.Sm 4000) (hf : v.fair) (hT : Tab W) :
    Calls Tryz.prog 26 #[v.val] W fun e w' => e = .returned (.string (S (U.text v))) ∧ Below W.heap.size W w' := by
  have hv2 : v.Sm 100000000 := ⟨by have := hv.scheme; omega, by have := hv.opq; omega, by have := hv.user; omega, by have := hv.pass; omega, by have := hv.host; omega, by have := hv.path; omega, by have := hv.rawPath; omega, by have := hv.rawQuery; omega, by have := hv.fragment; omega, by have := hv.rawFragment; omega⟩
  have HV := Lib.hid hv
  have HV2 := Lib.hid hv2
  have HF := Lib.hid hf
  have HT := Lib.hid hT
  obtain ⟨r, HR⟩ : ∃ r, Hid ((S (U.text v)) = r) := ⟨_, rfl⟩
  rw [HR.out]
  have hB : Below W.heap.size W (W.alloc (.cells v.cells 23)) := (Below.refl _ _).alloc (Nat.le_refl _) _
  have hI : IsV (W.alloc (.cells v.cells 23)) W.heap.size v := heap_new _ _ _ rfl
  have HB := Lib.hid hB
  have HI := Lib.hid hI
  clear hv hv2 hf hT
  go_enter Tryz.func26, Tryz.ntmps26
  go_upto_region 1 with fail
  change Code.wp _ _ _ _ (W.alloc (.cells v.cells 23))
  obtain ⟨W1, hW1⟩ : ∃ x, W.alloc (.cells v.cells 23) = x := ⟨_, rfl⟩
  rw [hW1] at HB HI ⊢
  clear hW1 hB hI
  go_wp2_with (refine wpl_loadV rfl _ rfl _ _ rfl HI.out ?_)
  refine (i_fits v W1 HV.out).mono ?_
  rintro e w2 ⟨rfl, b2⟩
  have HI2 := Lib.hid (HI.out.keep b2)
  have B2 := Lib.hid (HB.out.trans (b2.mono HB.out.size))
  clear b2
  go_wp2_with (refine wpl_loadV rfl _ rfl _ _ rfl HI2.out ?_)
  refine (i_made v w2 HF.out).mono ?_
  rintro e w3 ⟨b3, g, rfl, hg, u3⟩
  have U3 := Lib.hid u3
  have B3 := Lib.hid (B2.out.trans (b3.mono B2.out.size))
  clear b3 u3
  go_wp2_with fail
  refine (i_text w3 g v HV.out (HT.out.below B3.out) U3.out).mono ?_
  rintro e w4 ⟨rfl, b4⟩
  rw [HR.out]
  go_wp2_with fail
  go_ret
  exact ⟨rfl, B3.out.trans (b4.mono B3.out.size)⟩

end Go.Proofs.YtphkohpphdcjhaaGreatDoor
