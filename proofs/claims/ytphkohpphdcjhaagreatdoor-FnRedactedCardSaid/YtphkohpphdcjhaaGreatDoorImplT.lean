/- The walk of the package's Redacted; the thin Redacted. -/
import Derived.Test.YtphkohpphdcjhaaGreatDoorImplS
import Derived.Test.YtphkohpphdcjhaaGreatDoorImplU0
namespace Go.Proofs.YtphkohpphdcjhaaGreatDoor
open Go.RowKit Go.Proofs.YtphkohpphdcjhaaGreatDoorW.PrintWords Go.Proofs.YtphkohpphdcjhaaGreatDoorW.PrintLast
open U (L S)

abbrev xs : ByteArray := ⟨#[120, 120, 120, 120, 120]⟩
/-- A password written as xxxxx. -/
def red (v : V) : V := if v.hasPass = true then { v with pass := xs } else v
theorem red_sm {v : V} (h : v.Sm 4000) : (red v).Sm 4000 := by
  unfold red
  split
  · exact ⟨h.scheme, h.opq, h.user, (by decide : xs.size ≤ 4000), h.host, h.path, h.rawPath, h.rawQuery, h.fragment, h.rawFragment⟩
  · exact h
theorem red_fair {v : V} (h : v.fair) : (red v).fair := by
  unfold red
  split
  · rename_i hp
    refine ⟨fun hu => ?_, fun hq => ?_⟩
    · have := (h.1 hu).2
      rw [hp] at this
      cases this
    · have : v.hasPass = false := hq
      rw [hp] at this
      cases this
  · exact h

set_option maxRecDepth 100000 in
set_option maxHeartbeats 3200000 in
theorem i_redacted (W : World) (g : Nat) (v : V) (hv : v.Sm 4000) (hf : v.fair) (hT : Tab W) (hg : IsU W g v) :
    Calls Tryz.prog 54 #[.pointer (some ⟨g, 0, none⟩)] W fun e w' => e = .returned (.string (S (U.text (red v)))) ∧ Below W.heap.size W w' := by
  have hpos := hT.lt
  obtain ⟨u, k1, k2⟩ := hg
  have hu1 : u.oneCell' = true := by rcases k2 with ⟨_, rfl⟩ | ⟨_, k, rfl, _⟩ <;> rfl
  have K1 := Lib.hid k1
  have K2 := Lib.hid k2
  have HV := Lib.hid hv
  have HF := Lib.hid hf
  have HT0 := Lib.hid hT
  obtain ⟨r, HR⟩ : ∃ r, Hid (S (U.text (red v)) = r) := ⟨_, rfl⟩
  rw [HR.out]
  clear k1 k2 hv hf hT
  go_enter Tryz.func54, Tryz.ntmps54
  go_upto_region 4 with (first | (refine wpl_loadU rfl _ rfl _ _ _ rfl K1.out ?_) | (refine wpl_storeU rfl _ _ rfl _ _ _ _ rfl rfl (heap_new _ _ _ rfl) rfl hu1 ?_; intro W1 hN ho))
  have hB : Below W.heap.size W W1 := new_below ho
  have HB := Lib.hid hB
  have HN := Lib.hid hN
  have HU := Lib.hid (K2.out.keep hB)
  have HT := Lib.hid (HT0.out.below hB)
  clear hB hN ho K1 K2 HT0 hu1
  obtain ⟨g1, hg1⟩ : ∃ g, W.heap.size = g := ⟨_, rfl⟩
  rw [hg1] at HB HN hpos ⊢
  have c2 : W1.cell? ⟨g1, 2, none⟩ = some u := cell_at HN.out rfl
  rcases HU.out with ⟨hu, rfl⟩ | ⟨hu, k, rfl, hk⟩
  · have hp : v.hasPass = false := (HF.out.1 hu).2
    have hr : red v = v := by rw [red, hp]; rfl
    have HR2 : Hid (S (U.text v) = r) := by rw [← HR.out, hr]; exact Lib.hid rfl
    have HG : Hid (IsU W1 g1 v) := Lib.hid ⟨_, HN.out, HU.out⟩
    clear hp hr hu
    go_wp2_with fail
    refine (i_Password_nil W1).mono ?_
    rintro e w2 ⟨rfl, rfl⟩
    go_wp2_with fail
    refine (i_text _ g1 v HV.out HT.out HG.out).mono ?_
    rintro e w3 ⟨rfl, b3⟩
    have B3 := Lib.hid b3
    clear b3
    go_wp2_with fail
    go_ret
    exact ⟨by rw [HR2.out]; rfl, by rw [hg1]; exact HB.out.trans (B3.out.mono (Nat.le_of_lt (heap_lt HN.out)))⟩
  · obtain ⟨f, HFP⟩ : ∃ f, Hid (v.hasPass = f) := ⟨_, rfl⟩
    have HK := Lib.hid hk
    have HHU := Lib.hid hu
    clear hk hu
    go_wp2_with fail
    refine (i_Password W1 k v.user v.pass v.hasPass HK.out).mono ?_
    rintro e w2 ⟨rfl, d2⟩
    have B2 : Hid (Below W1.heap.size W1 w2) := Lib.hid d2.below
    have HN2 : Hid (w2.heap[g1]? = some (.cells (v.ucells (.pointer (some ⟨k, 0, none⟩))) 80 (0, 0))) := Lib.hid ((B2.out.block _ (heap_lt HN.out)).trans HN.out)
    have HK2 : Hid (w2.heap[k]? = some (.cells v.who 107 (0, 0))) := Lib.hid ((B2.out.block _ (heap_lt HK.out)).trans HK.out)
    have BB := Lib.hid (HB.out.trans (B2.out.mono (Nat.le_of_lt (heap_lt HN.out))))
    have c2 : w2.cell? ⟨g1, 2, none⟩ = some (.pointer (some ⟨k, 0, none⟩)) := cell_at HN2.out rfl
    have f2 := free_at (o := 2) HN2.out
    clear d2
    rw [HFP.out]
    cases f
    · have hr : red v = v := by rw [red, HFP.out]; rfl
      have HR2 : Hid (S (U.text v) = r) := by rw [← HR.out, hr]; exact Lib.hid rfl
      have HG : Hid (IsU w2 g1 v) := Lib.hid ⟨_, HN2.out, .inr ⟨HHU.out, k, rfl, HK2.out⟩⟩
      clear hr
      go_wp2_with fail
      refine (i_text _ g1 v HV.out (HT.out.below B2.out) HG.out).mono ?_
      rintro e w3 ⟨rfl, b3⟩
      have B3 := Lib.hid b3
      clear b3
      go_wp2_with fail
      go_ret
      exact ⟨by rw [HR2.out]; rfl, by rw [hg1]; exact BB.out.trans (B3.out.mono (Nat.le_of_lt (heap_lt HN2.out)))⟩
    · have hr : red v = { v with pass := xs } := by rw [red, HFP.out]; rfl
      have HR2 : Hid (S (U.text { v with pass := xs }) = r) := by rw [← HR.out, hr]; exact Lib.hid rfl
      have HV2 : Hid (V.Sm 4000 { v with pass := xs }) := by rw [← hr]; exact Lib.hid (red_sm HV.out)
      clear hr
      go_wp2_with fail
      refine (i_Username w2 k _ _ _ HK2.out).mono ?_
      rintro e w3 ⟨rfl, rfl⟩
      go_wp2_with fail
      refine (i_UserPassword v.user xs w2).mono ?_
      rintro e w4 ⟨b4, k4, rfl, hk4, hc4⟩
      have h4 : w4.heap[g1]? = _ := (b4.block _ (heap_lt HN2.out)).trans HN2.out
      have f4 := free_at (o := 2) h4
      have c4 : w4.cell? ⟨g1, 2, none⟩ = some (.pointer (some ⟨k, 0, none⟩)) := cell_at h4 rfl
      have B4 := Lib.hid b4
      have H4 := Lib.hid h4
      have HC4 := Lib.hid hc4
      have BC := Lib.hid (BB.out.trans (b4.mono (Nat.le_of_lt (heap_lt HN2.out))))
      have hgk : g1 ≠ k4 := by have := heap_lt HN2.out; omega
      have HG : Hid (IsU (w4.setCell ⟨g1, 2, none⟩ (.pointer (some ⟨k4, 0, none⟩))) g1 { v with pass := xs }) :=
        Lib.hid ⟨.pointer (some ⟨k4, 0, none⟩), (heap_set h4 _).trans rfl, .inr ⟨HHU.out, k4, rfl, by
          rw [((Only.refl g1 w4).setCell 2 (.pointer (some ⟨k4, 0, none⟩))).block k4 (heap_lt hc4) (fun e => hgk e.symm), hc4]
          unfold V.who
          rw [HFP.out]⟩⟩
      have BD : Hid (Below g1 W (w4.setCell ⟨g1, 2, none⟩ (.pointer (some ⟨k4, 0, none⟩)))) := Lib.hid (BC.out.setCell (Nat.le_refl _) _)
      have HT4 : Hid (Tab (w4.setCell ⟨g1, 2, none⟩ (.pointer (some ⟨k4, 0, none⟩)))) := Lib.hid (Tab.only ((HT.out.below B2.out).below B4.out) ((Only.refl _ _).setCell _ _) (by omega))
      clear b4 h4 hc4
      go_wp2_with fail
      refine (i_text _ g1 _ HV2.out HT4.out HG.out).mono ?_
      rintro e w5 ⟨rfl, b5⟩
      have B5 := Lib.hid b5
      clear b5
      go_wp2_with fail
      go_ret
      exact ⟨by rw [HR2.out]; rfl, by rw [hg1]; exact BD.out.trans (B5.out.mono (Nat.le_of_lt HG.out.lt))⟩
end Go.Proofs.YtphkohpphdcjhaaGreatDoor
