/- The walk of the reference's Text. -/
import Derived.Test.YtphkohpphdcjhaaGreatDoorTK13
namespace Go.Proofs.YtphkohpphdcjhaaGreatDoor
open Go.RowKit Go.Proofs.YtphkohpphdcjhaaGreatDoorW.PrintWords
open U (L S)

theorem escPath_sz {v : V} {n : Nat} (h : v.Sm n) : (U.escPath v).length ≤ 3 * n := by
  have := U.escPath_len v
  have := h.path
  rw [U.len_L] at *
  omega

set_option maxRecDepth 100000 in
set_option maxHeartbeats 6400000 in
theorem c_text (W : World) (v : V) (hv : v.Sm 4000) :
    Calls Tryz.prog 25 #[v.val] W fun e w' => e = .returned (.string (S (U.text v))) ∧ Below W.heap.size W w' := by
  have hB : Below W.heap.size W (W.alloc (.cells v.cells 23)) := (Below.refl _ _).alloc (Nat.le_refl _) _
  have hI : IsV (W.alloc (.cells v.cells 23)) W.heap.size v := heap_new _ _ _ rfl
  have HB := Lib.hid hB
  have HI := Lib.hid hI
  have hs0 := hv.scheme
  have hs1 := hv.opq
  have hs2 := hv.user
  have hs3 := hv.pass
  have hs6 := hv.host
  have hs11 := hv.rawQuery
  have hsp : Hid (Sm v.path ∧ Sm v.rawPath) := Lib.hid ⟨Nat.le_trans hv.path (by decide), Nat.le_trans hv.rawPath (by decide)⟩
  have hsf : Hid (Sm v.fragment ∧ Sm v.rawFragment) := Lib.hid ⟨Nat.le_trans hv.fragment (by decide), Nat.le_trans hv.rawFragment (by decide)⟩
  have hep := escPath_sz hv
  have hef : (U.escFrag v).length ≤ 12000 := by
    have := U.escFrag_len v
    have := hv.fragment
    rw [U.len_L] at *
    omega
  have HEP := Lib.hid hep
  have HEF := Lib.hid hef
  clear hep hef hv
  obtain ⟨es, HES⟩ : ∃ b, Hid (em v.scheme = b) := ⟨_, rfl⟩
  obtain ⟨eo, HEO⟩ : ∃ b, Hid (em v.opq = b) := ⟨_, rfl⟩
  obtain ⟨eh, HEH⟩ : ∃ b, Hid (em v.host = b) := ⟨_, rfl⟩
  obtain ⟨ep, HEPA⟩ : ∃ b, Hid (em v.path = b) := ⟨_, rfl⟩
  obtain ⟨eq, HEQ⟩ : ∃ b, Hid (em v.rawQuery = b) := ⟨_, rfl⟩
  obtain ⟨ef, HEFR⟩ : ∃ b, Hid (em v.fragment = b) := ⟨_, rfl⟩
  obtain ⟨hu, HHU⟩ : ∃ b, Hid (v.hasUser = b) := ⟨_, rfl⟩
  obtain ⟨hp, HHP⟩ : ∃ b, Hid (v.hasPass = b) := ⟨_, rfl⟩
  obtain ⟨om, HOM⟩ : ∃ b, Hid (v.omitHost = b) := ⟨_, rfl⟩
  obtain ⟨fq, HFQ⟩ : ∃ b, Hid (v.forceQuery = b) := ⟨_, rfl⟩
  obtain ⟨q, HQ⟩ : ∃ q, Hid (S (U.escPath v) = q) := ⟨_, rfl⟩
  obtain ⟨r, HR⟩ : ∃ r, Hid (S (U.text v) = r) := ⟨_, rfl⟩
  rw [HR.out]
  go_enter Tryz.func25, Tryz.ntmps25
  go_upto_region 1 with fail
  change Code.wp _ _ _ _ (W.alloc (.cells v.cells 23))
  obtain ⟨W1, hW1⟩ : ∃ x, W.alloc (.cells v.cells 23) = x := ⟨_, rfl⟩
  rw [hW1] at HB HI ⊢
  obtain ⟨g, hg⟩ : ∃ g, W.heap.size = g := ⟨_, rfl⟩
  have HG := Lib.hid hg
  rw [hg] at HI ⊢
  clear hW1 hB hI hg
  have c0 : W1.cell? ⟨g, 0, none⟩ = some (.string v.scheme) := cell_at HI.out rfl
  have c1 : W1.cell? ⟨g, 1, none⟩ = some (.string v.opq) := cell_at HI.out rfl
  go_upto_region 2 with fail
  go_cut [10] (fun t wx => t = .bool (!es) ∧ wx = W1)
  case first =>
    rcases em_ways _ _ HES with ⟨rfl, e1⟩ | ⟨rfl, e1⟩
    all_goals
      go_wp2_with fail
      go_meet
      exact ⟨rfl, rfl⟩
  obtain ⟨rfl, e⟩ := hcut
  obtain rfl := e.symm
  go_upto_if 10 with fail
  go_cut [3] (fun t wx => ∃ a : ByteArray, t = .string a ∧ L a = tScheme v es ∧ a.size ≤ 4001 ∧ wx = W1)
  case first =>
    cases es
    · go_wp2_with fail
      go_meet
      exact ⟨_, rfl, by rw [U.app_S, U.L_S]; rfl, by rw [ByteArray.size_append]; show v.scheme.size + 1 ≤ 4001; omega, rfl⟩
    · go_wp2_with fail
      go_meet
      exact ⟨_, rfl, rfl, by decide, rfl⟩
  obtain ⟨a, rfl, hA, hsa, e⟩ := hcut
  obtain rfl := e.symm
  have HA := Lib.hid hA
  clear hA
  go_upto_region 4 with fail
  go_cut [16] (fun t wx => t = .bool (!eo) ∧ wx = W1)
  case first =>
    rcases em_ways _ _ HEO with ⟨rfl, e1⟩ | ⟨rfl, e1⟩
    all_goals
      go_wp2_with fail
      go_meet
      exact ⟨rfl, rfl⟩
  obtain ⟨rfl, e⟩ := hcut
  obtain rfl := e.symm
  go_upto_if 16 with fail
  go_cut [3] (fun t wx => StrAt (tBody v es eo q) 200000 W1 t wx)
  case first =>
    as_aux_lemma =>
    cases eo
    · go_wp2_with fail
      go_meet
      exact ⟨_, rfl, by rw [U.app_S, U.L_S, HA.out]; rfl, by rw [ByteArray.size_append]; omega, Below.refl _ _⟩
    · have HQL : Hid (U.escPath v = L q) := Lib.hid (by rw [← HQ.out]; rfl)
      have hq : q.size ≤ 12000 := by rw [← U.len_L, ← HQL.out]; exact HEP.out
      obtain ⟨c6, HC6⟩ : ∃ b, Hid (((!es || !eh || hu) && (!om || !eh || hu)) = b) := ⟨_, rfl⟩
      obtain ⟨c7, HC7⟩ : ∃ b, Hid ((!eh || !ep || hu) = b) := ⟨_, rfl⟩
      have HFR : Hid (U.front v = tFront v es c6 c7) := Lib.hid (front_is v es eh ep c6 c7 HES.out HEH.out HEPA.out (by rw [HHU.out, HOM.out]; exact HC6.out) (by rw [HHU.out]; exact HC7.out))
      have c2 : W1.cell? ⟨g, 2, none⟩ = some (.string v.user) := cell_at HI.out rfl
      have c4 : W1.cell? ⟨g, 4, none⟩ = some (.bool v.hasUser) := cell_at HI.out rfl
      have c6' : W1.cell? ⟨g, 6, none⟩ = some (.string v.host) := cell_at HI.out rfl
      have c7' : W1.cell? ⟨g, 7, none⟩ = some (.string v.path) := cell_at HI.out rfl
      have c9 : W1.cell? ⟨g, 9, none⟩ = some (.bool v.omitHost) := cell_at HI.out rfl
      rw [HHU.out] at c4
      rw [HOM.out] at c9
      clear c1
      go_upto_region 6 with fail
      go_cut [46] (fun t wx => t = .bool c6 ∧ wx = W1)
      case first =>
        as_aux_lemma =>
        clear c2 c7' hs0 hs1 hs2 hs3 hs6 hs11 hsa hq
        rcases em_ways _ _ HES with ⟨rfl, e1⟩ | ⟨rfl, e1⟩
        all_goals
          rcases em_ways _ _ HEH with ⟨rfl, e2⟩ | ⟨rfl, e2⟩
          all_goals
            cases hu
            all_goals
              cases om
              all_goals
                go_wp2_with fail
                go_meet
                exact ⟨by rw [← HC6.out]; rfl, rfl⟩
      obtain ⟨rfl, e⟩ := hcut
      obtain rfl := e.symm
      clear c0 c9
      go_upto_if 46 with fail
      go_cut [3] (fun t wx => StrAt (tFront v es c6 c7) 50000 W1 t wx)
      case first =>
        as_aux_lemma =>
        cases c6
        · go_wp2_with fail
          go_meet
          exact ⟨a, rfl, by rw [HA.out, tFront, if_neg (by simp), List.append_nil], by omega, Below.refl _ _⟩
        · go_upto_region 7 with fail
          go_cut [58] (fun t wx => t = .bool c7 ∧ wx = W1)
          case first =>
            clear c2 hs0 hs1 hs2 hs3 hs6 hs11 hsa hq
            rcases em_ways _ _ HEH with ⟨rfl, e1⟩ | ⟨rfl, e1⟩
            all_goals
              rcases em_ways _ _ HEPA with ⟨rfl, e2⟩ | ⟨rfl, e2⟩
              all_goals
                cases hu
                all_goals
                  go_wp2_with fail
                  go_meet
                  exact ⟨by rw [← HC7.out]; rfl, rfl⟩
          obtain ⟨rfl, e⟩ := hcut
          obtain rfl := e.symm
          clear c7'
          go_upto_if 58 with fail
          go_cut [3] (fun t wx => ∃ a' : ByteArray, t = .string a' ∧ L a' = tScheme v es ++ (if c7 = true then [47, 47] else []) ∧ a'.size ≤ 4003 ∧ wx = W1)
          case first =>
            cases c7
            · go_wp2_with fail
              go_meet
              exact ⟨a, rfl, by rw [HA.out]; simp, by omega, rfl⟩
            · go_wp2_with fail
              go_meet
              exact ⟨_, rfl, by rw [U.app_S, U.L_S, HA.out]; rfl, by rw [ByteArray.size_append]; show a.size + 2 ≤ 4003; omega, rfl⟩
          obtain ⟨a', rfl, hA', hsa', e⟩ := hcut
          obtain rfl := e.symm
          have HA' := Lib.hid hA'
          clear hA' hsa
          go_upto_if 62 with fail
          go_cut [3] (fun t wx => StrAt (L a' ++ (if hu = true then U.userText v ++ [64] else [])) 30000 W1 t wx)
          case first =>
            as_aux_lemma =>
            cases hu
            · go_wp2_with fail
              go_meet
              exact ⟨a', rfl, by simp, by omega, Below.refl _ _⟩
            · obtain ⟨x, HX⟩ : ∃ x, Hid (U.esc 1 (L v.user) = L x) := ⟨S _, Lib.hid rfl⟩
              obtain ⟨y, HY⟩ : ∃ y, Hid (U.esc 1 (L v.pass) = L y) := ⟨S _, Lib.hid rfl⟩
              have hx : x.size ≤ 12000 := by
                rw [← U.len_L, ← HX.out]
                exact Nat.le_trans (len_esc _ _) (by omega)
              have hy : y.size ≤ 12000 := by
                rw [← U.len_L, ← HY.out]
                exact Nat.le_trans (len_esc _ _) (by omega)
              have HUT : Hid (U.userText v = L x ++ (if hp = true then 58 :: L y else [])) := by
                unfold U.userText
                rw [HX.out, HY.out, HHP.out]
                exact Lib.hid rfl
              go_wp2_with fail
              refine (c_Escape v.user x 1 _ W1 (Nat.le_trans hs2 (by decide)) rfl HX).mono ?_
              rintro e w2 ⟨rfl, b2⟩
              have c3 : w2.cell? ⟨g, 3, none⟩ = some (.string v.pass) := cell_at (HI.out.keep b2) rfl
              have c5 : w2.cell? ⟨g, 5, none⟩ = some (.bool v.hasPass) := cell_at (HI.out.keep b2) rfl
              rw [HHP.out] at c5
              have B2 := Lib.hid b2
              clear b2 c2 c4 c6'
              cases hp
              · go_wp2_with fail
                go_meet
                exact ⟨_, rfl, by rw [HUT.out, U.app_S, U.app_S, U.L_S, U.L_S]; simp; rfl, by rw [ByteArray.size_append, ByteArray.size_append]; show _ + _ + 1 ≤ _; omega, B2.out⟩
              · go_wp2_with fail
                refine (c_Escape v.pass y 1 _ w2 (Nat.le_trans hs3 (by decide)) rfl HY).mono ?_
                rintro e w3 ⟨rfl, b3⟩
                have B3 := Lib.hid (B2.out.trans (b3.mono B2.out.size))
                clear b3
                go_wp2_with fail
                go_meet
                refine ⟨_, rfl, ?_, ?_, B3.out⟩
                · rw [HUT.out]
                  simp only [U.app_S, U.L_S]
                  simp
                  rfl
                · simp only [ByteArray.size_append]
                  show _ + _ + (1 + _) + 1 ≤ _
                  omega
          obtain ⟨b, rfl, hb, hsb, b2⟩ := hcut
          have HB2 := Lib.hid hb
          have B2 := Lib.hid b2
          have c6'' : wc.cell? ⟨g, 6, none⟩ = some (.string v.host) := cell_at (HI.out.keep b2) rfl
          clear hb b2 c2 c4 c6'
          obtain ⟨x, HX⟩ : ∃ x, Hid (U.esc 2 (L v.host) = L x) := ⟨S _, Lib.hid rfl⟩
          have hx : x.size ≤ 12000 := by
            rw [← U.len_L, ← HX.out]
            exact Nat.le_trans (len_esc _ _) (by omega)
          go_wp2_with fail
          refine (c_Escape v.host x 2 _ wc (Nat.le_trans hs6 (by decide)) rfl HX).mono ?_
          rintro e w3 ⟨rfl, b3⟩
          have B3 := Lib.hid (B2.out.trans (b3.mono B2.out.size))
          clear b3
          go_wp2_with fail
          go_meet
          refine ⟨_, rfl, ?_, ?_, B3.out⟩
          · rw [U.app_S, U.L_S, HB2.out, HA'.out, tFront, if_pos rfl, tAuth, HHU.out, HX.out]
            simp
          · rw [ByteArray.size_append]
            omega
      obtain ⟨f, rfl, hF, hsf', b2⟩ := hcut
      have HF := Lib.hid (hF.trans HFR.out.symm)
      have hI2 := HI.out.keep b2
      have I2 := Lib.hid hI2
      have B2 := Lib.hid b2
      clear hF b2 hI2 c2 c4 c6' c7' HC6 HC7 HFR hsa
      go_wp2_with (refine wpl_loadV rfl _ rfl _ _ rfl I2.out ?_)
      refine (c_escPath wc v hsp.out).mono ?_
      rintro e w3 ⟨rfl, b3⟩
      rw [HQ.out]
      have hI3 := I2.out.keep b3
      have I3 := Lib.hid hI3
      have B3 := Lib.hid (B2.out.trans (b3.mono B2.out.size))
      have k6 : w3.cell? ⟨g, 6, none⟩ = some (.string v.host) := cell_at hI3 rfl
      clear b3 hI3 I2 B2
      obtain ⟨c16, HC16⟩ : ∃ b, Hid (decide (L q ≠ [] ∧ (L q).head? ≠ some 47 ∧ L v.host ≠ []) = b) := ⟨_, rfl⟩
      go_upto_region 16 with fail
      go_cut [96] (fun t wx => t = .bool c16 ∧ wx = w3)
      case first =>
        have e47 : ((47 : UInt8).toNat : Int) = 47 := rfl
        rcases head_ways q 47 with ⟨h1, h2⟩ | ⟨h1, hz, ⟨h2, h3⟩ | ⟨h2, h3⟩⟩
        · have hl : L q = [] := by rw [← U.toList_L]; exact h1
          have : c16 = false := by rw [← HC16.out]; simp [hl]
          subst this
          clear h2 hl
          go_wp2_with fail
          go_meet
          exact ⟨rfl, rfl⟩
        · have hl : L q ≠ [] := by rw [← U.toList_L]; simpa using h1
          rw [e47] at h2
          rcases empty_ways v.host with ⟨e1, e2⟩ | ⟨e1, e2⟩
          · have : c16 = false := by rw [← HC16.out]; simp [e1]
            subst this
            clear h3 hl e1
            go_wp2_with fail
            go_meet
            exact ⟨rfl, rfl⟩
          · have : c16 = true := by rw [← HC16.out]; exact decide_eq_true ⟨hl, h3, e1⟩
            subst this
            clear h3 hl e1
            go_wp2_with fail
            go_meet
            exact ⟨rfl, rfl⟩
        · have : c16 = false := by rw [← HC16.out]; simp [h3]
          subst this
          clear h3
          rw [e47] at h2
          go_wp2_with fail
          go_meet
          exact ⟨rfl, rfl⟩
      obtain ⟨rfl, e⟩ := hcut
      obtain rfl := e.symm
      go_upto_if 96 with fail
      go_cut [3] (fun t wx => ∃ a' : ByteArray, t = .string a' ∧ L a' = tSlash v (U.front v) q ∧ a'.size ≤ 50001 ∧ wx = w3)
      case first =>
        cases c16
        · go_wp2_with fail
          go_meet
          exact ⟨f, rfl, by rw [tSlash, if_neg (of_decide_eq_false HC16.out), List.append_nil, HF.out], by omega, rfl⟩
        · go_wp2_with fail
          go_meet
          exact ⟨_, rfl, by rw [tSlash, if_pos (of_decide_eq_true HC16.out), U.app_S, U.L_S, HF.out]; rfl, by rw [ByteArray.size_append]; show f.size + 1 ≤ 50001; omega, rfl⟩
      obtain ⟨f3, rfl, hF3, hsf3, e⟩ := hcut
      obtain rfl := e.symm
      have HF3 := Lib.hid hF3
      clear hF3 HF HC16 k6 hsf'
      obtain ⟨e3, HE3⟩ : ∃ b, Hid (em f3 = b) := ⟨_, rfl⟩
      go_upto_region 18 with fail
      go_cut [100] (fun t wx => t = .bool e3 ∧ wx = w3)
      case first =>
        rcases em_ways _ _ HE3 with ⟨rfl, e1⟩ | ⟨rfl, e1⟩
        all_goals
          go_wp2_with fail
          go_meet
          exact ⟨rfl, rfl⟩
      obtain ⟨rfl, e⟩ := hcut
      obtain rfl := e.symm
      go_upto_if 100 with fail
      go_cut [3] (fun t wx => StrAt (tDot (L f3) q) 50001 w3 t wx)
      case first =>
        as_aux_lemma =>
        cases e3
        · go_wp2_with fail
          go_meet
          exact ⟨f3, rfl, by rw [tDot, if_neg (fun h => of_decide_eq_false HE3.out h.1)], hsf3, Below.refl _ _⟩
        · obtain ⟨a1, H1⟩ : ∃ x, (U.cut 47 (L q)).1 = L x := ⟨S _, rfl⟩
          obtain ⟨a2, H2⟩ : ∃ x, (U.cut 47 (L q)).2.1 = L x := ⟨S _, rfl⟩
          obtain ⟨a3, H3⟩ : ∃ x, (U.cut 47 (L q)).2.2 = x := ⟨_, rfl⟩
          have HCU : Hid (U.cut 47 (L q) = (L a1, L a2, a3)) := by rw [← H1, ← H2, ← H3]; rfl
          have hf1 : Sm a1 := by have := U.cut_len1 47 (L q); rw [H1, U.len_L, U.len_L] at this; unfold Sm at *; omega
          obtain ⟨co, HCO⟩ : ∃ x, Hid (U.among 58 (L a1) = x) := ⟨_, rfl⟩
          have HTD : Hid (tDot (L f3) q = if co = true then [46, 47] else L f3) := by
            have hz : L f3 = [] := of_decide_eq_true HE3.out
            rw [tDot, HCU.out, HCO.out]
            refine Lib.hid ?_
            cases co
            · rw [if_neg (by simp), if_neg (by simp)]
            · rw [if_pos ⟨hz, rfl⟩, if_pos rfl]
          clear H1 H2 H3
          go_wp2_with fail
          refine (c_cut q a1 a2 47 _ a3 w3 (Nat.le_trans hq (by decide)) rfl HCU).mono ?_
          rintro e w4 ⟨rfl, d4⟩
          have b4 := d4.below
          clear d4
          go_wp2_with fail
          refine (c_among a1 58 _ co w4 hf1 rfl HCO).mono ?_
          rintro e w5 ⟨rfl, d5⟩
          have B5 := Lib.hid (b4.trans (d5.below.mono b4.size))
          clear d5 b4
          cases co
          · go_wp2_with fail
            go_meet
            exact ⟨f3, rfl, by rw [HTD.out]; rfl, hsf3, B5.out⟩
          · go_wp2_with fail
            go_meet
            exact ⟨_, rfl, by rw [HTD.out]; rfl, by show 2 ≤ 50001; omega, B5.out⟩
      obtain ⟨f4, rfl, hF4, hsf4, b4⟩ := hcut
      have HF4 := Lib.hid hF4
      have hI4 := I3.out.keep b4
      have B4 := Lib.hid (B3.out.trans (b4.mono B3.out.size))
      have c6 : wc.cell? ⟨g, 6, none⟩ = some (.string v.host) := cell_at hI4 rfl
      have c9 : wc.cell? ⟨g, 9, none⟩ = some (.bool v.omitHost) := cell_at hI4 rfl
      have c4 : wc.cell? ⟨g, 4, none⟩ = some (.bool v.hasUser) := cell_at hI4 rfl
      rw [HHU.out] at c4
      rw [HOM.out] at c9
      obtain ⟨W4, HW4⟩ : ∃ x, wc = x := ⟨_, rfl⟩
      rw [HW4] at B4 c6 c9 c4 ⊢
      clear HW4 hF4 hI4 b4 I3 B3 hsf3
      obtain ⟨b2, HS2⟩ : ∃ b, Hid (decide ((L q).take 2 = [47, 47]) = b) := ⟨_, rfl⟩
      obtain ⟨c22, HC22⟩ : ∃ b, Hid ((om && eh && !hu && b2) = b) := ⟨_, rfl⟩
      have HTP : Hid (tPath v q = if c22 = true then [37, 50, 70] ++ (L q).drop 1 else L q) := by
        rw [tPath, ← HC22.out, ← HS2.out, ← HOM.out, ← HEH.out, ← HHU.out]
        refine Lib.hid ?_
        congr 1
        simp only [U.bare, em, Bool.and_eq_true, decide_eq_true_eq, List.isEmpty_iff]
      go_upto_region 22 with fail
      go_cut [130] (fun t wx => t = .bool c22 ∧ wx = W4)
      case first =>
        as_aux_lemma =>
        cases om
        · go_wp2_with fail
          go_meet
          exact ⟨by rw [← HC22.out]; rfl, rfl⟩
        · rcases em_ways _ _ HEH with ⟨rfl, e1⟩ | ⟨rfl, e1⟩
          · cases hu
            · rcases two_slashes q b2 HS2 with ⟨h2, rfl⟩ | ⟨h2, h4⟩
              · go_wp2_with fail
                go_meet
                exact ⟨by rw [← HC22.out]; rfl, rfl⟩
              · have : c22 = b2 := by rw [← HC22.out]; rfl
                subst this
                clear HC22
                cases c22
                all_goals
                  go_wp2_with fail
                  go_meet
                  exact ⟨rfl, rfl⟩
            · go_wp2_with fail
              go_meet
              exact ⟨by rw [← HC22.out]; rfl, rfl⟩
          · go_wp2_with fail
            go_meet
            exact ⟨by rw [← HC22.out]; rfl, rfl⟩
      obtain ⟨rfl, e⟩ := hcut
      obtain rfl := e.symm
      go_upto_if 130 with fail
      go_cut [4] (fun t wx => ∃ q' : ByteArray, t = .string q' ∧ L q' = tPath v q ∧ q'.size ≤ 12003 ∧ wx = W4)
      case first =>
        cases c22
        · go_wp2_with fail
          go_meet
          exact ⟨q, rfl, by rw [HTP.out]; rfl, by omega, rfl⟩
        · have hb2 : b2 = true := by
            have := HC22.out
            simp only [Bool.and_eq_true] at this
            exact this.2
          have hz : (1 : Int) ≤ (q.size : Int) := by
            rcases two_slashes q b2 HS2 with ⟨_, h⟩ | ⟨h, _⟩
            · rw [hb2] at h; cases h
            · omega
          go_wp2_with fail
          go_meet
          refine ⟨_, rfl, ?_, ?_, rfl⟩
          · rw [HTP.out, U.app_S, U.L_S, U.ext_from, U.L_S]
            first | rw [if_pos trivial] | rw [if_pos rfl]
            rfl
          · rw [ByteArray.size_append, ByteArray.size_extract]
            show 3 + _ ≤ 12003
            omega
      obtain ⟨q', rfl, hQ', hsq', e⟩ := hcut
      obtain rfl := e.symm
      have HQ' := Lib.hid hQ'
      clear hQ' c6 c9 c4
      go_wp2_with fail
      go_meet
      exact ⟨_, rfl, by rw [U.app_S, U.L_S, HF4.out, HQ'.out, HF3.out]; rfl, by rw [ByteArray.size_append]; omega, B4.out⟩
  obtain ⟨a5, rfl, hA5, hsa5, b2⟩ := hcut
  have HA5 := Lib.hid hA5
  have I2 := Lib.hid (HI.out.keep b2)
  have c10 : wc.cell? ⟨g, 10, none⟩ = some (.bool v.forceQuery) := cell_at I2.out rfl
  have c11 : wc.cell? ⟨g, 11, none⟩ = some (.string v.rawQuery) := cell_at I2.out rfl
  have c12 : wc.cell? ⟨g, 12, none⟩ = some (.string v.fragment) := cell_at I2.out rfl
  rw [HFQ.out] at c10
  have B2 := Lib.hid (HB.out.trans (b2.mono HB.out.size))
  obtain ⟨W2, hW2⟩ : ∃ x, wc = x := ⟨_, rfl⟩
  rw [hW2] at B2 I2 c10 c11 c12 ⊢
  clear hW2 hA5 b2 c0 c1 hsa
  obtain ⟨cq, HCQ⟩ : ∃ b, Hid ((fq || !eq) = b) := ⟨_, rfl⟩
  have HAT : Hid (askTail v = if cq = true then 63 :: L v.rawQuery else []) := by
    rw [askTail, ← HCQ.out, ← HFQ.out, ← HEQ.out]
    refine Lib.hid ?_
    congr 1
    simp [em]
  go_upto_region 25 with fail
  go_cut [143] (fun t wx => t = .bool cq ∧ wx = W2)
  case first =>
    rcases em_ways _ _ HEQ with ⟨rfl, e1⟩ | ⟨rfl, e1⟩
    all_goals
      cases fq
      all_goals
        go_wp2_with fail
        go_meet
        exact ⟨by rw [← HCQ.out]; rfl, rfl⟩
  obtain ⟨rfl, e⟩ := hcut
  obtain rfl := e.symm
  go_upto_if 143 with fail
  go_cut [3] (fun t wx => ∃ a' : ByteArray, t = .string a' ∧ L a' = L a5 ++ askTail v ∧ a'.size ≤ 204001 ∧ wx = W2)
  case first =>
    cases cq
    · go_wp2_with fail
      go_meet
      exact ⟨a5, rfl, by rw [HAT.out]; simp, by omega, rfl⟩
    · go_wp2_with fail
      go_meet
      refine ⟨_, rfl, ?_, ?_, rfl⟩
      · rw [HAT.out]
        simp only [U.app_S, U.L_S]
        rfl
      · simp only [ByteArray.size_append]
        show _ + (1 + _) ≤ _
        omega
  obtain ⟨a6, rfl, hA6, hsa6, e⟩ := hcut
  obtain rfl := e.symm
  have HQL : Hid (U.escPath v = L q) := Lib.hid (by rw [← HQ.out]; rfl)
  have HR2 : Hid (r = S (L a6 ++ (if ef = true then [] else 35 :: U.escFrag v))) := by
    rw [← HR.out, text_is v es eo q HES.out HEO.out HQL.out, hA6, HA5.out, ← HEFR.out]
    refine Lib.hid ?_
    congr 2
    simp [em]
  clear hA6 c10 c11 hsa5
  rcases em_ways _ _ HEFR with ⟨rfl, e1⟩ | ⟨rfl, e1⟩
  · have hr : r = a6 := by rw [HR2.out, if_pos rfl, List.append_nil, U.S_L]
    subst hr
    go_wp2_with fail
    go_ret
    exact ⟨rfl, B2.out⟩
  · obtain ⟨x, HX⟩ : ∃ x, Hid (S (U.escFrag v) = x) := ⟨_, rfl⟩
    have hx : x.size ≤ 12000 := by
      rw [← HX.out, len_S]
      exact HEF.out
    have hr : r = a6 ++ (⟨#[35]⟩ ++ x) := by
      rw [HR2.out, if_neg (by simp), U.app_S, U.app_S, ← HX.out]
      rfl
    have HR3 := Lib.hid hr
    clear hr
    go_wp2_with (refine wpl_loadV rfl _ rfl _ _ rfl I2.out ?_)
    refine (c_escFrag W2 v hsf.out).mono ?_
    rintro e w3 ⟨rfl, b3⟩
    rw [HX.out]
    have B3 := Lib.hid (B2.out.trans (b3.mono B2.out.size))
    clear b3
    go_wp2_with fail
    go_ret
    exact ⟨by rw [HR3.out]; rfl, B3.out⟩

end Go.Proofs.YtphkohpphdcjhaaGreatDoor
