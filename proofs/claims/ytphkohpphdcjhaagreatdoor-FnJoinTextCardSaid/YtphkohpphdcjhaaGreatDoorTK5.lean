/- The walk of the parts of the reference, an authority; the ways joined. -/
import Derived.Test.YtphkohpphdcjhaaGreatDoorTK4
namespace Go.Proofs.YtphkohpphdcjhaaGreatDoor
open Go.RowKit Go.Proofs.YtphkohpphdcjhaaGreatDoorW.PrintWords
open U (L S)

set_option maxRecDepth 100000 in
set_option maxHeartbeats 8000000 in
theorem parts_auth (w : World) (s : ByteArray) (rq : Bool) (hs0 : s.size ≤ 10000000) (hAu : isAuth (L s) rq = true) :
    Calls Tryz.prog 36 #[.string s, .bool rq] w (PartsPost w (U.parts (L s) rq)) := by
  have hs : Sm s := by unfold Sm; omega
  obtain ⟨o, HO⟩ : ∃ o, Hid (U.parts (L s) rq = o) := ⟨_, rfl⟩
  rw [HO.out]
  obtain ⟨sc, H1⟩ : ∃ x, (U.scheme (L s)).1 = L x := ⟨S _, rfl⟩
  obtain ⟨re, H2⟩ : ∃ x, (U.scheme (L s)).2.1 = L x := ⟨S _, rfl⟩
  obtain ⟨ok, H3⟩ : ∃ x, (U.scheme (L s)).2.2 = x := ⟨_, rfl⟩
  have HS : Hid (U.scheme (L s) = (L sc, L re, ok)) := by rw [← H1, ← H2, ← H3]; rfl
  have HZ : Hid ((ok && isAuthF (U.lower (L sc)) (U.cut 63 (L re)).1 rq) = true) := by
    rw [isAuth, HS.out] at hAu
    exact hAu
  clear H1 H2 H3 hAu
  go_enter Tryz.func36, Tryz.ntmps36
  go_wp2_with fail
  have S0 : ∀ n, St w (((w.alloc (.cells V.zero.cells 23)).alloc (.cells V.zero.cells 23)).drewN n) V.zero := fun n =>
    ⟨(Below.heap_alloc _ _ _ (by simp)).trans (heap_new _ _ _ rfl), heap_new _ _ _ (by simp), below_n (((Below.refl _ _).alloc (Nat.le_refl _) _).alloc (by simp) _) n⟩
  refine (c_scheme s sc re ok _ hs HS).mono ?_
  rintro e w1 ⟨rfl, ⟨n, rfl⟩⟩
  cases ok
  case false => exact absurd HZ.out (by simp)
  have HI : Hid (partsIn (L sc) (L re) rq = o) := by rw [← HO.out, partsIn_eq, HS.out]; rfl
  have hsz : sc.size ≤ s.size ∧ re.size ≤ s.size := by
    have := U.sch_len (L s) (L s) 0
    have e := HS.out
    rw [U.scheme] at e
    rw [e, U.len_L, U.len_L, U.len_L] at this
    exact this
  have hss : Sm sc := by unfold Sm; omega
  have hsr : Sm re := by unfold Sm; omega
  clear HO HS
  obtain ⟨lo, HLO⟩ : ∃ x, Hid (U.lower (L sc) = L x) := ⟨S _, rfl⟩
  obtain ⟨fr, H1⟩ : ∃ x, (U.cut 63 (L re)).1 = L x := ⟨S _, rfl⟩
  obtain ⟨qu, H2⟩ : ∃ x, (U.cut 63 (L re)).2.1 = L x := ⟨S _, rfl⟩
  obtain ⟨as_, H3⟩ : ∃ x, (U.cut 63 (L re)).2.2 = x := ⟨_, rfl⟩
  have HC : Hid (U.cut 63 (L re) = (L fr, L qu, as_)) := by rw [← H1, ← H2, ← H3]; rfl
  have hsf : Sm fr := by have := U.cut_len1 63 (L re); rw [H1, U.len_L, U.len_L] at this; unfold Sm at *; omega
  have hsq : fr.size ≤ s.size := by have := U.cut_len1 63 (L re); rw [H1, U.len_L, U.len_L] at this; omega
  have HZ2 : Hid (isAuthF (L lo) (L fr) rq = true) := by
    have := HZ.out
    rw [HLO.out, H1] at this
    exact this
  clear H1 H2 H3 HZ
  go_wp2_with fail
  refine (c_lower sc lo _ hss HLO).mono ?_
  rintro e w1 ⟨rfl, b1⟩
  have s1 := (S0 _).keep b1
  have c0 := cell_at (o := 0) s1.u rfl
  have f0 := fun o => free_at (o := o) s1.u
  have S1 := Lib.hid s1
  clear b1 s1
  go_wp2_with fail
  refine (c_cut re fr qu 63 63 as_ _ hsr rfl HC).mono ?_
  rintro e w1 ⟨rfl, ⟨n2, rfl⟩⟩
  have S2 : Hid (St w ((w1.setCell ⟨w.heap.size + 1, 0, none⟩ (.string lo)).drewN n2) { V.zero with scheme := lo }) := Lib.hid ((S1.out.set 0 (.string lo) rfl).drewN n2)
  obtain ⟨W, HW⟩ : ∃ W, Hid ((w1.setCell ⟨w.heap.size + 1, 0, none⟩ (.string lo)).drewN n2 = W) := ⟨_, rfl⟩
  rw [HW.out] at S2 ⊢
  clear HW S1 c0 f0
  obtain ⟨fq, HFQ⟩ : ∃ b, Hid ((as_ && (L qu).isEmpty) = b) := ⟨_, rfl⟩
  go_upto_region 7 with fail
  go_cut [45] (fun t wx => t = .bool fq ∧ wx = W)
  case first =>
    cases as_
    · have : fq = false := by rw [← HFQ.out]; rfl
      subst this
      go_wp2_with fail
      go_meet
      exact ⟨rfl, rfl⟩
    · by_cases hq : L qu = []
      · have : fq = true := by rw [← HFQ.out, hq]; rfl
        subst this
        have hq1 : qu.toList = [] := by rw [U.toList_L]; exact hq
        clear hq
        go_wp2_with fail
        go_meet
        exact ⟨rfl, rfl⟩
      · have : fq = false := by rw [← HFQ.out]; simpa using hq
        subst this
        have hq1 : (qu.toList == []) = false := by rw [U.toList_L]; simpa using hq
        clear hq
        go_wp2_with fail
        go_meet
        exact ⟨rfl, rfl⟩
  case rest =>
    obtain ⟨rfl, rfl⟩ := hcut
    go_upto_if 45 with fail
    go_cut [] (fun wx => St w wx { V.zero with scheme := lo, forceQuery := fq })
    case first =>
      have c10 := cell_at (o := 10) S2.out.u rfl
      have f10 := free_at (o := 10) S2.out.u
      cases fq
      · go_wp2_with fail
        go_meet
        exact S2.out
      · go_wp2_with fail
        go_meet
        exact S2.out.set 10 (.bool true) rfl
    case rest =>
      have f11 := fun o => free_at (o := o) hcut.u
      have c11 := cell_at (o := 11) hcut.u rfl
      have S3 := Lib.hid (hcut.set (v' := { V.zero with scheme := lo, forceQuery := fq, rawQuery := qu }) 11 (.string qu) rfl)
      have HT : Hid ((if (L fr).head? ≠ some 47 then
          if L lo ≠ [] then some (some { V.zero with scheme := lo, forceQuery := fq, rawQuery := qu, opq := fr })
          else if rq || U.among 58 (U.cut 47 (L fr)).1 then some none
          else U.rest { V.zero with scheme := lo, forceQuery := fq, rawQuery := qu } (L fr) rq
        else U.rest { V.zero with scheme := lo, forceQuery := fq, rawQuery := qu } (L fr) rq) = o) := by
        have := HI.out
        simp only [partsIn, HC.out, HLO.out, HFQ.out, U.S_L] at this
        exact this
      clear hcut HI HC HLO HFQ S2
      go_upto_region 10 with fail
      obtain ⟨W3, HW⟩ : ∃ W3, Hid (wc.setCell ⟨w.heap.size + 1, 11, none⟩ (.string qu) = W3) := ⟨_, rfl⟩
      rw [HW.out] at S3 ⊢
      clear HW f11 c11
      obtain ⟨ns, HNS⟩ : ∃ b, Hid (decide ((L fr).head? ≠ some 47) = b) := ⟨_, rfl⟩
      go_cut [56] (fun t wx => t = .bool ns ∧ wx = W3)
      case first =>
        have e47 : ((47 : UInt8).toNat : Int) = 47 := rfl
        rcases head_ways fr 47 with ⟨h1, h2⟩ | ⟨h1, hz, ⟨h2, h3⟩ | ⟨h2, h3⟩⟩
        · have : ns = true := by rw [← HNS.out]; simpa using h2
          subst this
          clear h2
          go_wp2_with fail
          go_meet
          exact ⟨rfl, rfl⟩
        · have : ns = true := by rw [← HNS.out]; simpa using h3
          subst this
          clear h3
          rw [e47] at h2
          go_wp2_with fail
          go_meet
          exact ⟨rfl, rfl⟩
        · have : ns = false := by rw [← HNS.out]; simpa using h3
          subst this
          clear h3
          rw [e47] at h2
          go_wp2_with fail
          go_meet
          exact ⟨rfl, rfl⟩
      case rest =>
        obtain ⟨rfl, rfl⟩ := hcut
        have HT2 : Hid ((if ns = true then
          if L lo ≠ [] then some (some { V.zero with scheme := lo, forceQuery := fq, rawQuery := qu, opq := fr })
          else if rq || U.among 58 (U.cut 47 (L fr)).1 then some none
          else U.rest { V.zero with scheme := lo, forceQuery := fq, rawQuery := qu } (L fr) rq
          else U.rest { V.zero with scheme := lo, forceQuery := fq, rawQuery := qu } (L fr) rq) = o) := by
          rw [← HNS.out]
          simp only [decide_eq_true_eq]
          exact HT.out
        clear HT
        go_upto_if 56 with fail
        go_cut [] (fun wx => St w wx { V.zero with scheme := lo, forceQuery := fq, rawQuery := qu } ∧ Hid (U.rest { V.zero with scheme := lo, forceQuery := fq, rawQuery := qu } (L fr) rq = o))
        case first =>
          cases ns
          · go_wp2_with fail
            go_meet
            exact ⟨S3.out, HT2.out⟩
          · exact absurd (isAuthF_head HZ2.out) (of_decide_eq_true HNS.out)
        case rest =>
          obtain ⟨s4, HT4⟩ := hcut
          have S4 := Lib.hid s4
          clear s4 HT2 S3
          go_upto_region 17 with fail
          obtain ⟨th, HTH⟩ : ∃ x, Hid (decide ((L fr).take 3 = [47, 47, 47]) = x) := ⟨_, rfl⟩
          go_cut [17] (fun t wx => t = .bool th ∧ wx = wc)
          case first =>
            by_cases h3 : 3 ≤ fr.size
            · have h3' : (3 : Int) ≤ (fr.size : Int) := by omega
              have he : Hid (((fr.extract 0 3).toList == [47, 47, 47]) = th) := by
                rw [← HTH.out, U.toList_L, U.ext_to, U.L_S]
                show ((L fr).take 3 == [47, 47, 47]) = decide ((L fr).take 3 = [47, 47, 47])
                rw [Bool.eq_iff_iff]
                simp
              go_wp2_with fail
              go_meet
              exact ⟨congrArg Value.bool he.out, rfl⟩
            · have h3' : ¬ (3 : Int) ≤ (fr.size : Int) := by omega
              have : th = false := by
                rw [← HTH.out]
                simp only [decide_eq_false_iff_not]
                intro e
                have := congrArg List.length e
                rw [List.length_take, U.len_L] at this
                simp at this
                omega
              subst this
              go_wp2_with fail
              go_meet
              exact ⟨rfl, rfl⟩
          case rest =>
            obtain ⟨rfl, rfl⟩ := hcut
            go_upto_region 18 with fail
            obtain ⟨au, HAU⟩ : ∃ x, Hid (decide ((L lo ≠ [] ∨ rq = false ∧ th = false) ∧ (L fr).take 2 = [47, 47]) = x) := ⟨_, rfl⟩
            go_cut [103] (fun t wx => t = .bool au ∧ wx = wc)
            case first =>
              have c0 := cell_at (o := 0) S4.out.u rfl
              obtain ⟨a1, HA1⟩ : ∃ x, Hid (decide (L lo ≠ [] ∨ rq = false ∧ th = false) = x) := ⟨_, rfl⟩
              obtain ⟨a2, HA2⟩ : ∃ x, Hid (decide ((L fr).take 2 = [47, 47]) = x) := ⟨_, rfl⟩
              have hau : au = (a1 && a2) := by rw [← HAU.out, ← HA1.out, ← HA2.out, Bool.decide_and]
              clear HAU
              subst hau
              have hlo : (L lo = [] ∧ lo.toList = []) ∨ (L lo ≠ [] ∧ (lo.toList == []) = false) := by
                rw [U.toList_L]
                by_cases h : L lo = []
                · exact .inl ⟨h, h⟩
                · exact .inr ⟨h, by simpa using h⟩
              have h2 : (¬ (2 : Int) ≤ (fr.size : Int) ∧ a2 = false) ∨ ((2 : Int) ≤ (fr.size : Int) ∧ ((fr.extract 0 2).toList == [47, 47]) = a2) := by
                by_cases h : (2 : Int) ≤ (fr.size : Int)
                · refine .inr ⟨h, ?_⟩
                  rw [← HA2.out, U.toList_L, U.ext_to, U.L_S]
                  show ((L fr).take 2 == [47, 47]) = decide ((L fr).take 2 = [47, 47])
                  rw [Bool.eq_iff_iff]
                  simp
                · refine .inl ⟨h, ?_⟩
                  rw [← HA2.out]
                  simp only [decide_eq_false_iff_not]
                  intro e
                  have := congrArg List.length e
                  rw [List.length_take, U.len_L] at this
                  simp at this
                  omega
              have h1 : (((lo.toList == []) = false ∧ a1 = true) ∨ (lo.toList = [] ∧ rq = true ∧ a1 = false) ∨ (lo.toList = [] ∧ rq = false ∧ th = true ∧ a1 = false) ∨ (lo.toList = [] ∧ rq = false ∧ th = false ∧ a1 = true)) := by
                rw [← HA1.out]
                rcases hlo with ⟨e1, e2⟩ | ⟨e1, e2⟩
                · cases rq
                  · cases th
                    · exact .inr (.inr (.inr ⟨e2, rfl, rfl, by simp⟩))
                    · exact .inr (.inr (.inl ⟨e2, rfl, rfl, by simp [e1]⟩))
                  · exact .inr (.inl ⟨e2, rfl, by simp [e1]⟩)
                · exact .inl ⟨e2, by simp [e1]⟩
              clear HA1 HA2 hlo
              rcases h1 with ⟨h1, rfl⟩ | ⟨h1, rfl, rfl⟩ | ⟨h1, rfl, rfl, rfl⟩ | ⟨h1, rfl, rfl, rfl⟩ <;> rcases h2 with ⟨h2, rfl⟩ | ⟨h2, h4⟩
              all_goals go_wp2_with fail
              all_goals go_meet
              all_goals exact ⟨rfl, rfl⟩
            case rest =>
              obtain ⟨rfl, rfl⟩ := hcut
              have HT5 : Hid ((if au = true then restAuth { V.zero with scheme := lo, forceQuery := fq, rawQuery := qu } ((L fr).drop 2) else restBare { V.zero with scheme := lo, forceQuery := fq, rawQuery := qu } (L fr)) = o) := by
                have := HT4.out
                rw [rest_eq] at this
                rw [← HAU.out, ← HTH.out]
                simp only [decide_eq_true_eq, decide_eq_false_iff_not]
                exact this
              have HAZ : Hid (au = true → (2 : Int) ≤ (fr.size : Int)) := by
                intro h
                have h2 := HAU.out
                rw [h] at h2
                have := congrArg List.length (of_decide_eq_true h2).2
                rw [List.length_take, U.len_L] at this
                simp at this
                omega
              clear HT4
              go_upto_if 103 with fail
              go_cut [9] (fun t wx => ∃ (pa : ByteArray) (u' : V), t = .string pa ∧ St w wx u' ∧ Sm pa ∧ Hid (finish u' pa = o))
              case first =>
                cases au
                · have := of_decide_eq_true HZ2.out
                  refine absurd ⟨this.1.imp id (fun h => ⟨h.1, ?_⟩), this.2⟩ (of_decide_eq_false HAU.out)
                  exact HTH.out.symm.trans (decide_eq_false h.2)
                · have HT6 : Hid (restAuth { V.zero with scheme := lo, forceQuery := fq, rawQuery := qu } ((L fr).drop 2) = o) := by
                    have := HT5.out
                    simp only [if_true] at this
                    exact this
                  clear HT5
                  have hfz : (2 : Int) ≤ (fr.size : Int) := HAZ.out rfl
                  obtain ⟨A, HA⟩ : ∃ A, Hid (fr.extract 2 fr.size = A) := ⟨_, rfl⟩
                  have hA : (L fr).drop 2 = L A := drop_L HA.out
                  have hAz : fr.size - 2 = A.size := by rw [← HA.out, ByteArray.size_extract]; omega
                  have hSA : Sm A := by unfold Sm at *; omega
                  have HT7 := HT6.out
                  rw [hA] at HT7
                  have HT7 := Lib.hid HT7
                  clear HT6 hA
                  go_upto_block 0 with fail
                  rw [HA.out]
                  clear HA
                  go_cut [18, 9] (fun x y wx => ∃ (at_ pa : ByteArray) (n : Nat), x = .string at_ ∧ y = .string pa ∧ wx = wc.drewN n ∧ Hid (L at_ = (U.cut 47 (L A)).1) ∧ Hid (L pa = (L A).drop (U.cut 47 (L A)).1.length) ∧ at_.size ≤ A.size ∧ Sm pa)
                  case first =>
                    go_wp2_with fail
                    go_loop [108, 18, 9] (fun c x y => ∃ k : Nat, k ≤ A.size ∧ c = .int .i64 k ∧ x = .string A ∧ y = .string ⟨#[]⟩ ∧ Hid (U.idx 47 (L A) = k + U.idx 47 ((L A).drop k))) (fun c _ _ => A.size - (intOf c).toNat)
                    case atStart => exact ⟨0, Nat.zero_le _, rfl, rfl, rfl, Lib.hid (by simp)⟩
                    case round =>
                      obtain ⟨k, hk, rfl, rfl, rfl, HK⟩ := hrel
                      by_cases hlt : k < A.size
                      · by_cases h47 : ((A[k]'hlt).toNat : Int) = 47
                        · have hix : U.idx 47 (L A) = k := by
                            have := HK.out
                            rw [U.idx_drop _ _ _ (by rw [U.len_L]; exact hlt), if_pos (byte_eq.1 h47)] at this
                            omega
                          have HL1' : Hid (S (U.cut 47 (L A)).1 = A.extract 0 k) := by rw [U.ext_to, ← hix]; rfl
                          have HL2' : Hid (S ((L A).drop (U.cut 47 (L A)).1.length) = A.extract k A.size) := by
                            have e : (U.cut 47 (L A)).1.length = k := by
                              show ((L A).take (U.idx 47 (L A))).length = k
                              rw [hix, List.length_take, U.len_L]
                              omega
                            rw [e, U.ext_from]
                            exact Lib.hid rfl
                          clear hix HK
                          go_wp2_with fail
                          go_quiet (fail)
                          go_wp2_with fail
                          obtain ⟨at_, Hat⟩ : ∃ x, Hid (A.extract 0 k = x) := ⟨_, rfl⟩
                          obtain ⟨pa, Hpa⟩ : ∃ x, Hid (A.extract k A.size = x) := ⟨_, rfl⟩
                          have HL1 : Hid (L at_ = (U.cut 47 (L A)).1) := by rw [← Hat.out, ← HL1'.out, U.L_S]; rfl
                          have HL2 : Hid (L pa = (L A).drop (U.cut 47 (L A)).1.length) := by rw [← Hpa.out, ← HL2'.out, U.L_S]; rfl
                          have haz : at_.size ≤ A.size := by rw [← Hat.out, ByteArray.size_extract]; omega
                          have HSP : Sm pa := by unfold Sm at *; rw [← Hpa.out, ByteArray.size_extract]; omega
                          rw [Hat.out, Hpa.out]
                          clear Hat Hpa HL1' HL2'
                          go_meet
                          exact ⟨at_, pa, _, rfl, rfl, rfl, HL1.out, HL2.out, by omega, HSP⟩
                        · have HK2 : Hid (U.idx 47 (L A) = (k + 1) + U.idx 47 ((L A).drop (k + 1))) := by
                            have := HK.out
                            rw [U.idx_drop _ _ _ (by rw [U.len_L]; exact hlt), if_neg (fun e => h47 (byte_eq.2 e))] at this
                            rw [this]
                            exact Lib.hid (by omega)
                          clear HK
                          go_wp2_with fail
                          go_round
                          case rel => exact ⟨k + 1, by omega, by go_num, rfl, rfl, HK2⟩
                          case measure => simp [intOf]; omega
                      · obtain rfl : k = A.size := by omega
                        have hix : U.idx 47 (L A) = A.size := by
                          have := HK.out
                          rw [List.drop_eq_nil_of_le (by rw [U.len_L]; exact Nat.le_refl _)] at this
                          exact this
                        have hc1 : (U.cut 47 (L A)).1 = L A := by
                          show (L A).take (U.idx 47 (L A)) = L A
                          rw [hix, List.take_of_length_le (by rw [U.len_L]; exact Nat.le_refl _)]
                        have HL1 : Hid (L A = (U.cut 47 (L A)).1) := hc1.symm
                        have HL2 : Hid (L (⟨#[]⟩ : ByteArray) = (L A).drop (U.cut 47 (L A)).1.length) := by rw [hc1, List.drop_length]; rfl
                        have HSP : Sm ⟨#[]⟩ := by decide
                        have haz : A.size ≤ A.size := Nat.le_refl _
                        clear hix hc1 HK hlt
                        go_wp2_with fail
                        go_meet
                        exact ⟨A, ⟨#[]⟩, 0, rfl, rfl, rfl, HL1.out, HL2.out, by omega, HSP⟩
                  case rest =>
                    obtain ⟨at_, pa, n, rfl, rfl, rfl, HL1, HL2, haz, HSP⟩ := hcut
                    go_wp2_with fail
                    refine (auth_any _ _ { V.zero with scheme := lo, forceQuery := fq, rawQuery := qu } at_ (by omega) (S4.out.drewN _).u ⟨rfl, rfl, rfl, rfl⟩).mono ?_
                    obtain ⟨r, HR⟩ : ∃ r, Hid (U.authority (L at_) = r) := ⟨_, rfl⟩
                    rw [HR.out]
                    have HT8 : Hid (authFin { V.zero with scheme := lo, forceQuery := fq, rawQuery := qu } pa r = o) := by
                      rw [← HT7.out, ← HR.out, restAuth, ← HL2.out, U.S_L, ← HL1.out]
                      exact Lib.hid rfl
                    rintro e w6 ⟨o6, he⟩
                    rcases r with _ | _ | ⟨hh, who⟩
                    · obtain ⟨he, u6⟩ := he
                      subst he
                      have s6 := (S4.out.drewN _).only o6 u6
                      have S6 := Lib.hid s6
                      clear s6 u6 o6 S4 HT7
                      go_wp2_with (first | (refine wpl_loadV rfl _ rfl _ _ rfl S6.out.u ?_) | (refine wpl_storeV rfl _ _ rfl _ _ _ rfl rfl S6.out.r ?_; intro wR hR oR))
                      refine ret_V2 Tryz.results36 _ _ _ _ rfl rfl rfl rfl hR ?_
                      refine parts_untold _ HT8.out.symm ?_
                      exact S6.out.ret oR
                    · obtain ⟨he, v', u6⟩ := he
                      subst he
                      have s6 := (S4.out.drewN _).only o6 u6
                      have S6 := Lib.hid s6
                      clear s6 u6 o6 S4 HT7
                      go_wp2_with (first | (refine wpl_loadV rfl _ rfl _ _ rfl S6.out.u ?_) | (refine wpl_storeV rfl _ _ rfl _ _ _ rfl rfl S6.out.r ?_; intro wR hR oR))
                      refine ret_V2 Tryz.results36 _ _ _ _ rfl rfl rfl rfl hR ?_
                      refine parts_no _ HT8.out.symm ?_
                      exact S6.out.ret oR
                    · obtain ⟨he, u6⟩ := he
                      subst he
                      have s6 := (S4.out.drewN _).only o6 u6
                      clear u6 o6 S4 HT7
                      have S6 := Lib.hid s6
                      clear s6
                      go_wp2_with fail
                      go_meet
                      exact ⟨pa, _, rfl, S6.out, HSP, HT8.out⟩
              case rest =>
                obtain ⟨pa, u', rfl, s5, hpa, HFI⟩ := hcut
                have S5 := Lib.hid s5
                clear s5 HT5
                go_wp2_with fail
                refine (c_setPath _ _ u' pa hpa S5.out.u).mono ?_
                rintro e w6 ⟨rfl, u6, o6⟩
                have s6 := S5.out.only o6 u6
                have S6 := Lib.hid s6
                clear s6 u6 o6 S5
                go_wp2_with (first | (refine wpl_loadV rfl _ rfl _ _ rfl S6.out.u ?_) | (refine wpl_storeV rfl _ _ rfl _ _ _ rfl rfl S6.out.r ?_; intro wR hR oR))
                refine ret_V2 Tryz.results36 _ _ _ _ rfl rfl rfl rfl hR ?_
                have hb : ∀ W, Below w.heap.size w W → PartsPost w o (.returned (.tuple #[(U.setPath u' pa).1.val, .bool (U.setPath u' pa).2, .bool true])) W := by
                  intro W hW
                  have := HFI.out
                  unfold finish at this
                  cases h : (U.setPath u' pa).2
                  · rw [h, if_neg (by decide)] at this
                    exact parts_no _ this.symm hW
                  · rw [h, if_pos rfl] at this
                    exact parts_ok _ this.symm hW
                refine hb _ ?_
                exact S6.out.ret oR

theorem parts_any (w : World) (s : ByteArray) (rq : Bool) (hs0 : s.size ≤ 10000000) :
    Calls Tryz.prog 36 #[.string s, .bool rq] w (PartsPost w (U.parts (L s) rq)) := by
  cases h : isAuth (L s) rq
  · exact parts_bare w s rq hs0 h
  · exact parts_auth w s rq hs0 h
end Go.Proofs.YtphkohpphdcjhaaGreatDoor
