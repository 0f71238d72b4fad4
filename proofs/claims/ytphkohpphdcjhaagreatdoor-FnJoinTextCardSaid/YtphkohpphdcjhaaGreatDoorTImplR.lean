/- The walk of the package's String. -/
import Derived.Test.YtphkohpphdcjhaaGreatDoorTImplR4
set_option linter.unusedVariables false
namespace Go.Proofs.YtphkohpphdcjhaaGreatDoor
open Go.RowKit Go.Proofs.YtphkohpphdcjhaaGreatDoorW.PrintWords
open U (L S)

set_option maxRecDepth 100000 in
set_option maxHeartbeats 64000000 in
theorem i_text (W : World) (g : Nat) (v : V) (hv : v.Sm 4000) (hT : Tab W) (hg : IsU W g v) :
    Calls Tryz.prog 50 #[.pointer (some ⟨g, 0, none⟩)] W fun e w' => e = .returned (.string (S (U.text v))) ∧ Below W.heap.size W w' := by
  have HU := Lib.hid hg
  have HT := Lib.hid hT
  have HV := Lib.hid hv
  have hs0 := hv.scheme
  have hs6 := hv.rawQuery
  have hs8 := hv.rawFragment
  have hb0 : Below W.heap.size W (W.alloc (.cells #[.pointer none, .slice none 0 0] 92)) := (Below.refl _ _).alloc (Nat.le_refl _) _
  have HU0 := Lib.hid (hg.keep hb0)
  obtain ⟨u, k1, k2⟩ := hg.keep hb0
  have c0 : (W.alloc (.cells #[.pointer none, .slice none 0 0] 92)).cell? ⟨g, 0, none⟩ = some (.string v.scheme) := cell_at k1 rfl
  have c1 : (W.alloc (.cells #[.pointer none, .slice none 0 0] 92)).cell? ⟨g, 1, none⟩ = some (.string v.opq) := cell_at k1 rfl
  have c6 : (W.alloc (.cells #[.pointer none, .slice none 0 0] 92)).cell? ⟨g, 6, none⟩ = some (.string v.rawQuery) := cell_at k1 rfl
  have c8 : (W.alloc (.cells #[.pointer none, .slice none 0 0] 92)).cell? ⟨g, 8, none⟩ = some (.string v.rawFragment) := cell_at k1 rfl
  clear hT hg hv k1 k2 hb0
  obtain ⟨es, HES⟩ : ∃ b, Hid (em v.scheme = b) := ⟨_, rfl⟩
  obtain ⟨eo, HEO⟩ : ∃ b, Hid (em v.opq = b) := ⟨_, rfl⟩
  obtain ⟨eh, HEH⟩ : ∃ b, Hid (em v.host = b) := ⟨_, rfl⟩
  obtain ⟨ep, HEPA⟩ : ∃ b, Hid (em v.path = b) := ⟨_, rfl⟩
  obtain ⟨eq, HEQ⟩ : ∃ b, Hid (em v.rawQuery = b) := ⟨_, rfl⟩
  obtain ⟨ef, HEFR⟩ : ∃ b, Hid (em v.fragment = b) := ⟨_, rfl⟩
  obtain ⟨hu, HHU⟩ : ∃ b, Hid (v.hasUser = b) := ⟨_, rfl⟩
  obtain ⟨om, HOM⟩ : ∃ b, Hid (v.omitHost = b) := ⟨_, rfl⟩
  obtain ⟨fq, HFQ⟩ : ∃ b, Hid (v.forceQuery = b) := ⟨_, rfl⟩
  obtain ⟨q, HQ⟩ : ∃ q, Hid (S (U.escPath v) = q) := ⟨_, rfl⟩
  obtain ⟨r, HR⟩ : ∃ r, Hid (S (U.text v) = r) := ⟨_, rfl⟩
  rw [HR.out]
  have HQL : Hid (U.escPath v = L q) := Lib.hid (by rw [← HQ.out]; rfl)
  obtain ⟨cq, HCQ⟩ : ∃ b, Hid ((fq || !eq) = b) := ⟨_, rfl⟩
  have HAT : Hid (askTail v = if cq = true then 63 :: L v.rawQuery else []) := by
    rw [askTail, ← HCQ.out, ← HFQ.out, ← HEQ.out]
    refine Lib.hid ?_
    congr 1
    simp [em]
  have HR2 : Hid (r = S ((tBody v es eo q ++ (if cq = true then 63 :: L v.rawQuery else [])) ++ (if ef = true then [] else 35 :: U.escFrag v))) := by
    rw [← HR.out, text_is v es eo q HES.out HEO.out HQL.out, HAT.out, ← HEFR.out]
    refine Lib.hid ?_
    congr 2
    simp [em]
  clear HR HAT
  go_enter Tryz.func50, Tryz.ntmps50
  go_upto_region 3 with fail
  go_cut [23] (fun t wx => t = .bool (!eo) ∧ wx = (W.alloc (.cells #[.pointer none, .slice none 0 0] 92)))
  case first =>
    rcases em_ways _ _ HEO with ⟨rfl, e1⟩ | ⟨rfl, e1⟩
    all_goals
      go_wp2_with fail
      go_meet
      exact ⟨rfl, rfl⟩
  obtain ⟨rfl, e⟩ := hcut
  subst e
  go_upto_if 23 with fail
  refine st_23 W (W.alloc (.cells #[.pointer none, .slice none 0 0] 92)) g v eo es eh hu om (v.scheme.size : Int) (by omega) (by omega) HU0 HV HES HEH HHU HOM _ _ ?_
  refine Lib.hid ?_
  intro _ _ _ _ _ _ _ _ _ _ _ _ _ _ _ _ _ _ _ _ _ _ _ _ _ _ _ _ _ _ _ _ _ _ _ _ _ _ _ _ _ _ _ _ _ _ _ _ _ _ _ _ _ _ _ _ _ _ _ _ _ _ _ _ _ _ _ _ _ n m w1 hw1 hn0 hn1
  as_aux_lemma =>
    subst hw1
    go_upto_region 10 with fail
    go_quiet (fail)
    go_wp2_with fail
    refine (Bu.grow W _ _ ?_ ?_).mono ?_
    · omega
    · omega
    rintro e w2 ⟨rfl, b2⟩
    have B2 := Lib.hid b2
    obtain ⟨u, k1, k2⟩ := HU.out.keep b2.below
    clear b2 c0 c1 c6 c8 hn0 hn1 HU0
    have c0 : w2.cell? ⟨g, 0, none⟩ = some (.string v.scheme) := cell_at k1 rfl
    clear k1 k2
    go_upto_region 13 with fail
    go_cut [111] (fun t wx => t = .bool (!es) ∧ wx = w2)
    case first =>
      rcases em_ways _ _ HES with ⟨rfl, e1⟩ | ⟨rfl, e1⟩
      all_goals
        go_wp2_with fail
        go_meet
        exact ⟨rfl, rfl⟩
    obtain ⟨rfl, e⟩ := hcut
    obtain rfl := e.symm
    clear c0
    go_upto_if 111 with fail
    refine st_111 W w2 g v es B2 HU hs0 _ _ ?_
    refine Lib.hid ?_
    intro _ _ _ _ _ _ W3 b3 HL3
    as_aux_lemma =>
      have B3 := Lib.hid b3
      obtain ⟨u3, k1, k2⟩ := HU.out.keep b3.below
      have c1 : W3.cell? ⟨g, 1, none⟩ = some (.string v.opq) := cell_at k1 rfl
      clear k1 k2 b3 B2
      go_upto_region 16 with fail
      go_cut [122] (fun t wx => t = .bool (!eo) ∧ wx = W3)
      case first =>
        rcases em_ways _ _ HEO with ⟨rfl, e1⟩ | ⟨rfl, e1⟩
        all_goals
          go_wp2_with fail
          go_meet
          exact ⟨rfl, rfl⟩
      obtain ⟨rfl, e⟩ := hcut
      obtain rfl := e.symm
      clear c1
      go_upto_if 122 with fail
      refine st_122 W W3 g v es eo eh ep hu om q HU HT HV HL3 B3 HES HEH HEPA HHU HOM HQ _ _ ?_
      refine Lib.hid ?_
      intro _ _ _ _ _ _ _ _ _ _ _ _ _ _ _ _ _ _ _ _ _ _ _ _ _ _ _ _ _ _ _ _ _ _ _ _ _ _ _ _ _ _ _ _ _ _ _ _ _ _ _ _ _ _ _ _ _ _ _ _ _ _ _ _ _ _ _ _ _ _ _ _ _ _ _ _ _ _ _ _ _ _ _ _ _ _ _ _ _ _ _ _ _ _ _ _ _ _ _ _ _ _ _ _ _ _ _ _ _ _ _ _ _ _ _ _ _ _ _ _ _ _ _ _ _ _ _ _ _ _ _ _ _ _ _ _ _ _ _ _ _ _ W5 b5 HL5
      as_aux_lemma =>
        have B5 := Lib.hid b5
        obtain ⟨u5, k1, k2⟩ := HU.out.keep b5.below
        clear b5 B3 k2
        have c9 : W5.cell? ⟨g, 9, none⟩ = some (.bool v.forceQuery) := cell_at k1 rfl
        have c6 : W5.cell? ⟨g, 6, none⟩ = some (.string v.rawQuery) := cell_at k1 rfl
        rw [HFQ.out] at c9
        clear k1
        obtain ⟨X, HX⟩ : ∃ X, Hid (tBody v es eo q = X) := ⟨_, Lib.hid rfl⟩
        rw [HX.out] at HL5 B5 HR2
        have hl5 := HL5.out
        go_upto_region 40 with fail
        go_cut [269] (fun t wx => t = .bool cq ∧ wx = W5)
        case first =>
          rcases em_ways _ _ HEQ with ⟨rfl, e1⟩ | ⟨rfl, e1⟩
          all_goals
            cases fq
            all_goals
              go_wp2_with fail
              go_meet
              exact ⟨by rw [← HCQ.out]; rfl, rfl⟩
        obtain ⟨rfl, e⟩ := hcut
        obtain rfl := e.symm
        clear c9 c6
        go_upto_if 269 with fail
        refine st_269 W W5 g v X cq hl5 B5 HU hs6 _ _ ?_
        refine Lib.hid ?_
        intro _ _ _ _ _ _ W6 b6
        as_aux_lemma =>
          obtain ⟨Y, HY⟩ : ∃ Y, Hid (X ++ (if cq = true then 63 :: L v.rawQuery else []) = Y) := ⟨_, Lib.hid rfl⟩
          have hl6 : Y.length ≤ 204001 := by
            rw [← HY.out, List.length_append]
            cases cq <;> simp [U.len_L] <;> omega
          rw [HY.out] at b6 HR2
          have B6 := Lib.hid b6
          obtain ⟨u6, k1, k2⟩ := HU.out.keep b6.below
          have c5 : W6.cell? ⟨g, 5, none⟩ = some (.string v.fragment) := cell_at k1 rfl
          clear k1 k2 b6 B5
          go_upto_region 43 with fail
          go_cut [280] (fun t wx => t = .bool (!ef) ∧ wx = W6)
          case first =>
            rcases em_ways _ _ HEFR with ⟨rfl, e1⟩ | ⟨rfl, e1⟩
            all_goals
              go_wp2_with fail
              go_meet
              exact ⟨rfl, rfl⟩
          obtain ⟨rfl, e⟩ := hcut
          obtain rfl := e.symm
          clear c5
          go_upto_if 280 with fail
          refine st_280 W W6 g v Y ef hl6 B6 HU HT HV _ _ ?_
          refine Lib.hid ?_
          intro _ _ _ _ W7 b7
          as_aux_lemma =>
            obtain ⟨Z, HZ⟩ : ∃ Z, Hid (Y ++ (if ef = true then [] else 35 :: U.escFrag v) = Z) := ⟨_, Lib.hid rfl⟩
            rw [HZ.out] at b7 HR2
            have B7 := Lib.hid b7
            clear b7 B6
            go_wp2_with fail
            refine B7.out.all.mono ?_
            rintro e w8 ⟨rfl, b8⟩
            have B8 := Lib.hid b8
            clear b8
            go_wp2_with fail
            go_ret
            exact ⟨by rw [HR2.out]; rfl, B8.out⟩
end Go.Proofs.YtphkohpphdcjhaaGreatDoor
