/- The reference of a text; comparison; what the rows share. -/
import Derived.Test.YtphkohpphdcjhaaGreatDoorTK5
import Derived.Test.YtphkohpphdcjhaaGreatDoorTK1
import Derived.Test.YtphkohpphdcjhaaGreatDoorTK6
import Derived.Test.YtphkohpphdcjhaaGreatDoorTK11
import Derived.Test.YtphkohpphdcjhaaGreatDoorWEqStruct
import Derived.Test.YtphkohpphdcjhaaGreatDoorTW0
import Derived.Test.YtphkohpphdcjhaaGreatDoorCards
import Derived.Test.YtphkohpphdcjhaaGreatDoorTie
import Derived.ProofKit
import Derived.OpenShut
import Derived.LaidMore
import Derived.Lay
import Derived.SevenTiedAt
import Derived.Stop.Joined
import Derived.Stop.LaidErr
import Derived.OpenVars
import Derived.Lib.LaidTab
namespace Go.Proofs.YtphkohpphdcjhaaGreatDoor
open Go.RowKit Go.Proofs.YtphkohpphdcjhaaGreatDoorW.PrintWords
open U (L S)

/-- What the reference's Parse hands back. -/
def SpecP (W : World) (o : Option (Option V)) (e : Ending) (w' : World) : Prop :=
  Below W.heap.size W w' ∧ match o with
  | none => e = .returned (.tuple #[V.zero.val, .bool true, .bool false])
  | some none => e = .returned (.tuple #[V.zero.val, .bool false, .bool true])
  | some (some v) => e = .returned (.tuple #[v.val, .bool true, .bool true])
theorem specP_no {w w' : World} {o} (ho : o = some none) (h : Below w.heap.size w w') : SpecP w o (.returned (.tuple #[V.zero.val, .bool false, .bool true])) w' := by
  subst ho
  exact ⟨h, rfl⟩
theorem specP_untold {w w' : World} {o} (ho : o = none) (h : Below w.heap.size w w') : SpecP w o (.returned (.tuple #[V.zero.val, .bool true, .bool false])) w' := by
  subst ho
  exact ⟨h, rfl⟩
theorem specP_ok {w w' : World} {o} (v : V) (ho : o = some (some v)) (h : Below w.heap.size w w') : SpecP w o (.returned (.tuple #[v.val, .bool true, .bool true])) w' := by
  subst ho
  exact ⟨h, rfl⟩
/-- The fragment given behind the rest. -/
def fragIn (v : V) (d : U.B) : Option (Option V) :=
  if d = [] then some (some v) else match U.unesc 3 d with
    | none => some none
    | some f => some (some { v with fragment := S f, rawFragment := if U.esc 3 f = d then E else S d })
def parseIn (q : Option (Option V)) (d : U.B) : Option (Option V) :=
  match q with
  | none => none
  | some none => some none
  | some (some v) => fragIn v d
theorem parse_in (l : U.B) (q : Bool) : U.parse l q = parseIn (U.parse1 (U.fcut l q).1 q) (U.fcut l q).2.1 := by
  have h0 : U.parse l q = match U.parse1 (U.fcut l q).1 q with
    | none => none
    | some none => some none
    | some (some v) =>
      if (U.fcut l q).2.1.isEmpty then some (some v)
      else match U.unesc 3 (U.fcut l q).2.1 with
        | none => some none
        | some f => some (some { v with fragment := S f, rawFragment := if U.esc 3 f = (U.fcut l q).2.1 then E else S (U.fcut l q).2.1 }) := rfl
  rw [h0]
  unfold parseIn fragIn
  generalize U.fcut l q = c
  cases U.parse1 c.1 q with
  | none => rfl
  | some x =>
    cases x with
    | none => rfl
    | some v =>
      simp only [List.isEmpty_iff]
/-- A whole reference put into the block that is filled. -/
theorem St.put {w W W' : World} {v v' : V} (h : St w W v) (o : Only (w.heap.size + 1) W W') (hu : IsV W' (w.heap.size + 1) v') : St w W' v' := h.only o hu

set_option maxRecDepth 100000 in
set_option maxHeartbeats 8000000 in
theorem c_Parse (w : World) (s : ByteArray) (rq : Bool) (hs0 : s.size ≤ 10000000) :
    Calls Tryz.prog 12 #[.string s, .bool rq] w (SpecP w (U.parse (L s) rq)) := by
  have hs : Sm s := by unfold Sm; omega
  obtain ⟨o, HO⟩ : ∃ o, Hid (U.parse (L s) rq = o) := ⟨_, rfl⟩
  rw [HO.out]
  obtain ⟨a, H1⟩ : ∃ x, Hid ((U.fcut (L s) rq).1 = L x) := ⟨S _, rfl⟩
  obtain ⟨f, H2⟩ : ∃ x, Hid ((U.fcut (L s) rq).2.1 = L x) := ⟨S _, rfl⟩
  have hO := HO.out
  rw [parse_in, H1.out, H2.out] at hO
  have HP := Lib.hid hO
  have haf : a.size ≤ s.size ∧ f.size ≤ s.size := by
    rw [← U.len_L a, ← U.len_L f, ← H1.out, ← H2.out, ← U.len_L s]
    unfold U.fcut
    cases rq
    · exact ⟨U.cut_len1 _ _, U.cut_len2 _ _⟩
    · simp
  have hS0 : St w ((w.alloc (.cells V.zero.cells 23)).alloc (.cells V.zero.cells 23)) V.zero :=
    ⟨(Below.heap_alloc _ _ _ (by simp)).trans (heap_new _ _ _ rfl), heap_new _ _ _ (by simp), ((Below.refl _ _).alloc (Nat.le_refl _) _).alloc (by simp) _⟩
  have S0 := Lib.hid hS0
  clear hO hS0 HO
  go_enter Tryz.func12, Tryz.ntmps12
  go_upto_region 2 with (refine wpl_storeV rfl _ _ rfl (w.heap.size + 1) V.zero V.zero rfl rfl S0.out.u ?_; intro wS hS oS)
  have S1 := Lib.hid (S0.out.only oS hS)
  clear hS oS S0
  go_upto_if 18 with fail
  go_cut [8, 9] (fun x y wx => ∃ n, x = .string a ∧ y = .string f ∧ wx = wS.drewN n)
  case first =>
    as_aux_lemma =>
    cases rq
    · obtain ⟨b, H3⟩ : ∃ x, (U.cut 35 (L s)).2.2 = x := ⟨_, rfl⟩
      have HC : Hid (U.cut 35 (L s) = (L a, L f, b)) := by rw [← H1.out, ← H2.out, ← H3]; exact Lib.hid rfl
      clear H1 H2 H3
      go_wp2_with fail
      refine (c_cut s a f 35 35 b _ hs rfl HC).mono ?_
      rintro e w1 ⟨rfl, ⟨n, rfl⟩⟩
      go_wp2_with fail
      go_meet
      exact ⟨n, rfl, rfl, rfl⟩
    · have e1 : a = s := U.L_inj H1.out.symm
      have e2 : f = E := U.L_nil H2.out.symm
      subst e1 e2
      clear H1 H2
      go_wp2_with fail
      go_meet
      exact ⟨0, rfl, rfl, rfl⟩
  case rest =>
    obtain ⟨n1, rfl, rfl, e⟩ := hcut
    have S2 : Hid (St w wc V.zero) := by rw [e]; exact Lib.hid (S1.out.drewN n1)
    obtain ⟨W2, hW2⟩ : ∃ x, wc = x := ⟨_, rfl⟩
    rw [hW2] at S2 ⊢
    clear hW2 e S1 H1 H2
    have hsa : Sm a := by unfold Sm; omega
    have hsf : Sm f := by unfold Sm; omega
    obtain ⟨q, HQ⟩ : ∃ x, Hid (U.parse1 (L a) rq = x) := ⟨_, rfl⟩
    have HRW : Hid (∀ v, q = some (some v) → v.rawFragment = E) := Lib.hid (fun v hv => U.L_nil (U.parse1_raw (HQ.out.trans hv)).2)
    have hP := HP.out
    rw [HQ.out] at hP
    have HP2 : Hid (parseIn q (L f) = o) := Lib.hid hP
    clear hP HP
    obtain ⟨ct, HCT⟩ : ∃ b, Hid ((L a).any U.ctl1 = b) := ⟨_, rfl⟩
    go_wp2_with fail
    go_loop [10, 27] (fun _ i => ∃ k : Nat, k ≤ a.size ∧ i = .int .i64 k ∧ Hid (((L a).drop k).any U.ctl1 = ct)) (fun _ i => a.size - (intOf i).toNat)
    case atStart => exact ⟨0, Nat.zero_le _, rfl, HCT⟩
    case round =>
      obtain ⟨k, hk, rfl, HK⟩ := hrel
      by_cases hlt : k < a.size
      · have h1 := HAny HK hlt (b := true)
        have h0 := HAny HK hlt (b := false)
        have H1 := Lib.hid h1
        have H0 := Lib.hid h0
        clear h1 h0
        by_cases hc : ((a[k]'hlt).toNat : Int) < 32 ∨ ((a[k]'hlt).toNat : Int) = 127
        · have hP : ct = true := H1.out (ctl_yes hc)
          subst hP
          have ho : o = some none := by
            rw [← HP2.out, ← HQ.out, U.parse1, HCT.out]
            rfl
          have HO := Lib.hid ho
          clear H0 H1 HK ho
          rcases hc with hc | hc
          all_goals
            go_wp2_with (first | (refine wpl_loadV rfl _ rfl _ _ rfl S2.out.u ?_) | (refine wpl_storeV rfl _ _ rfl _ _ _ rfl rfl S2.out.r ?_; intro wR hR oR))
            refine ret_V2 Tryz.results12 _ _ _ _ rfl rfl rfl rfl hR ?_
            exact specP_no HO.out (S2.out.ret oR)
        · have HP3 : Hid (((L a).drop (k + 1)).any U.ctl1 = ct) := H0.out (ctl_no hc)
          have hc1 : ¬ ((a[k]'hlt).toNat : Int) < 32 := fun h => hc (.inl h)
          have hc2 : ¬ ((a[k]'hlt).toNat : Int) = 127 := fun h => hc (.inr h)
          clear H0 H1 HK hc
          go_wp2_with fail
          go_round
          case rel => exact ⟨k + 1, by omega, by go_num, HP3⟩
          case measure => simp [intOf]; omega
      · have hct : ct = false := by rw [← HK.out]; exact any_end _ a k hlt
        subst hct
        have hQ := HQ.out
        rw [U.parse1, HCT.out, if_neg (by decide)] at hQ
        clear HK HCT HQ
        by_cases hem : L a = [] ∧ rq = true
        · rw [if_pos (by simp [hem])] at hQ
          have ho : o = some none := by rw [← HP2.out, ← hQ]; rfl
          have h1 : a.toList = [] := by rw [U.toList_L]; exact hem.1
          obtain ⟨_, rfl⟩ := hem
          have HO := Lib.hid ho
          clear hQ ho HP2
          go_wp2_with (first | (refine wpl_loadV rfl _ rfl _ _ rfl S2.out.u ?_) | (refine wpl_storeV rfl _ _ rfl _ _ _ rfl rfl S2.out.r ?_; intro wR hR oR))
          refine ret_V2 Tryz.results12 _ _ _ _ rfl rfl rfl rfl hR ?_
          exact specP_no HO.out (S2.out.ret oR)
        · rw [if_neg (by simpa using hem)] at hQ
          have HEM : Hid ((a.toList = [] ∧ rq = false) ∨ (a.toList == []) = false) := by
            rw [U.toList_L]
            by_cases h : L a = []
            · refine .inl ⟨h, ?_⟩
              cases rq
              · rfl
              · exact absurd ⟨h, rfl⟩ hem
            · exact .inr (by simpa using h)
          have HQ := Lib.hid hQ
          clear hem hQ
          go_upto_region 11 with fail
          go_cut [46] (fun t wx => t = .bool false ∧ wx = W2)
          case first =>
            as_aux_lemma =>
            rcases HEM.out with ⟨h1, rfl⟩ | h1
            all_goals
              go_wp2_with fail
              go_meet
              exact ⟨rfl, rfl⟩
          case rest =>
            obtain ⟨rfl, e⟩ := hcut
            obtain rfl := e.symm
            clear HEM
            obtain ⟨st, hst⟩ : ∃ b, (a.toList == [42]) = b := ⟨_, rfl⟩
            have HST : Hid (st = decide (L a = [42])) := by
              rw [← hst, U.toList_L]
              refine Lib.hid ?_
              rw [Bool.eq_iff_iff]
              simp
            go_upto_if 49 with fail
            clear hst
            go_cut [11, 12] (fun x y wx => ∃ (b1 b2 : Bool) (v : V), x = .bool b1 ∧ y = .bool b2 ∧ St w wx v ∧ Hid (q = if b2 = false then none else if b1 = false then some none else some (some v)) ∧ (b2 = false → b1 = true))
            case first =>
              as_aux_lemma =>
              cases st
              case true =>
                have hst : L a = [42] := of_decide_eq_true HST.out.symm
                have hq : q = some (some { V.zero with path := S [42] }) := by rw [← HQ.out, if_pos hst]
                have HQ2 := Lib.hid hq
                have f7 := free_at (o := 7) S2.out.u
                have c7 := cell_at (o := 7) S2.out.u rfl
                have S3 := Lib.hid (S2.out.set (v' := { V.zero with path := S [42] }) 7 (.string ⟨#[42]⟩) rfl)
                clear hst hq HQ HST
                go_wp2_with fail
                go_meet
                exact ⟨true, true, _, rfl, rfl, S3.out, HQ2, fun h => by simp at h⟩
              case false =>
                have hst : ¬ L a = [42] := of_decide_eq_false HST.out.symm
                have hq : U.parts (L a) rq = q := by rw [← HQ.out, if_neg hst]
                have cp := parts_any W2 a rq (by omega)
                rw [hq] at cp
                have CP := Lib.hid cp
                clear hst hq HQ cp HST
                go_wp2_with fail
                refine CP.out.mono ?_
                cases q with
                | none =>
                  rintro e w3 ⟨b3, v', rfl⟩
                  have S3 := Lib.hid (S2.out.keep b3)
                  clear b3
                  go_wp2_with (refine wpl_storeV rfl _ _ rfl _ V.zero v' rfl rfl S3.out.u ?_; intro wS hS oS)
                  go_meet
                  exact ⟨true, false, v', rfl, rfl, S3.out.put oS hS, rfl, fun _ => rfl⟩
                | some q =>
                  cases q with
                  | none =>
                    rintro e w3 ⟨b3, v', rfl⟩
                    have S3 := Lib.hid (S2.out.keep b3)
                    clear b3
                    go_wp2_with (refine wpl_storeV rfl _ _ rfl _ V.zero v' rfl rfl S3.out.u ?_; intro wS hS oS)
                    go_meet
                    exact ⟨false, true, v', rfl, rfl, S3.out.put oS hS, rfl, fun h => by simp at h⟩
                  | some v' =>
                    rintro e w3 ⟨b3, rfl⟩
                    have S3 := Lib.hid (S2.out.keep b3)
                    clear b3
                    go_wp2_with (refine wpl_storeV rfl _ _ rfl _ V.zero v' rfl rfl S3.out.u ?_; intro wS hS oS)
                    go_meet
                    exact ⟨true, true, v', rfl, rfl, S3.out.put oS hS, rfl, fun h => by simp at h⟩
            case rest =>
              as_aux_lemma =>
              obtain ⟨b1, b2, v, rfl, rfl, s3, HQ3, hbb⟩ := hcut
              have S3 := Lib.hid s3
              obtain ⟨W3, hW3⟩ : ∃ x, wc = x := ⟨_, rfl⟩
              rw [hW3] at S3 ⊢
              clear hW3 s3 S2 HQ
              cases b2 with
              | false =>
                obtain rfl := hbb rfl
                have hq := HQ3.out
                rw [if_pos rfl] at hq
                subst hq
                have ho : o = none := HP2.out.symm
                have HO := Lib.hid ho
                clear ho HP2 HQ3 hbb
                go_wp2_with (refine wpl_storeV rfl _ _ rfl _ V.zero V.zero rfl rfl S3.out.r ?_; intro wR hR oR)
                refine ret_V2 Tryz.results12 _ V.zero _ _ rfl rfl rfl rfl hR ?_
                exact specP_untold HO.out (S3.out.ret oR)
              | true =>
                clear hbb
                cases b1 with
                | false =>
                  have hq := HQ3.out
                  rw [if_neg (by decide), if_pos rfl] at hq
                  subst hq
                  have ho : o = some none := HP2.out.symm
                  have HO := Lib.hid ho
                  clear ho HP2 HQ3
                  go_wp2_with (refine wpl_storeV rfl _ _ rfl _ V.zero V.zero rfl rfl S3.out.r ?_; intro wR hR oR)
                  refine ret_V2 Tryz.results12 _ V.zero _ _ rfl rfl rfl rfl hR ?_
                  exact specP_no HO.out (S3.out.ret oR)
                | true =>
                  have hq := HQ3.out
                  rw [if_neg (by decide), if_neg (by decide)] at hq
                  subst hq
                  have ho : fragIn v (L f) = o := HP2.out
                  clear HP2 HQ3
                  unfold fragIn at ho
                  by_cases hfe : L f = []
                  · have h1 : f.toList = [] := by rw [U.toList_L]; exact hfe
                    rw [if_pos hfe] at ho
                    have HO := Lib.hid ho.symm
                    clear ho hfe
                    go_wp2_with (first | (refine wpl_loadV rfl _ rfl _ _ rfl S3.out.u ?_) | (refine wpl_storeV rfl _ _ rfl _ _ _ rfl rfl S3.out.r ?_; intro wR hR oR))
                    refine ret_V2 Tryz.results12 _ _ _ _ rfl rfl rfl rfl hR ?_
                    exact specP_ok _ HO.out (S3.out.ret oR)
                  · have h1 : (f.toList == []) = false := by rw [U.toList_L]; simpa using hfe
                    rw [if_neg hfe] at ho
                    cases hu : U.unesc 3 (L f) with
                    | none =>
                      rw [hu] at ho
                      have HO := Lib.hid ho.symm
                      have HU := Lib.hid hu
                      clear ho hfe hu
                      go_wp2_with fail
                      refine (c_Unescape_no f 3 3 _ hsf rfl HU).mono ?_
                      rintro e w4 ⟨rfl, b4⟩
                      have S4 := Lib.hid (S3.out.keep b4)
                      clear b4
                      go_wp2_with (refine wpl_storeV rfl _ _ rfl _ V.zero V.zero rfl rfl S4.out.r ?_; intro wR hR oR)
                      refine ret_V2 Tryz.results12 _ V.zero _ _ rfl rfl rfl rfl hR ?_
                      exact specP_no HO.out (S4.out.ret oR)
                    | some r =>
                      rw [hu] at ho
                      have HO := Lib.hid ho.symm
                      have HU : Hid (U.unesc 3 (L f) = some (L (S r))) := hu
                      have hrl : (S r).size ≤ f.size := by rw [U.size_S, ← U.len_L]; exact U.unesc_len 3 _ _ _ (Nat.le_refl _) hu
                      have hsr : Sm (S r) := by unfold Sm at *; omega
                      clear ho hfe hu
                      go_wp2_with fail
                      refine (c_Unescape f (S r) 3 3 _ hsf rfl HU).mono ?_
                      rintro e w4 ⟨rfl, b4⟩
                      have S4 := S3.out.keep b4
                      have c12 := cell_at (o := 12) S4.u rfl
                      have f12 := free_at (o := 12) S4.u
                      have S5 := Lib.hid (S4.set (v' := { v with fragment := S r }) 12 (.string (S r)) rfl)
                      clear b4 S4
                      obtain ⟨es, HES⟩ : ∃ x, Hid (U.esc 3 (L (S r)) = L x) := ⟨S _, rfl⟩
                      go_upto_region 24 with fail
                      obtain ⟨W5, hW5⟩ : ∃ x, w4.setCell ⟨w.heap.size + 1, 12, none⟩ (.string (S r)) = x := ⟨_, rfl⟩
                      rw [hW5] at S5 ⊢
                      clear hW5 c12 f12
                      go_wp2_with fail
                      refine (c_Escape (S r) es 3 3 _ hsr rfl HES).mono ?_
                      rintro e w6 ⟨rfl, b6⟩
                      have S6 := Lib.hid (S5.out.keep b6)
                      clear b6
                      have hrw := HRW.out v rfl
                      by_cases hee : U.esc 3 r = L f
                      · have e1 : es = f := U.L_inj (by rw [← HES.out]; exact hee)
                        subst e1
                        have hv : o = some (some { v with fragment := S r }) := by
                          rw [HO.out, if_pos hee, ← hrw]
                        have HV := Lib.hid hv
                        clear hee hv hrw HRW
                        go_wp2_with (first | (refine wpl_loadV rfl _ rfl _ _ rfl S6.out.u ?_) | (refine wpl_storeV rfl _ _ rfl _ _ _ rfl rfl S6.out.r ?_; intro wR hR oR))
                        refine ret_V2 Tryz.results12 _ _ _ _ rfl rfl rfl rfl hR ?_
                        exact specP_ok _ HV.out (S6.out.ret oR)
                      · have hne : (es.toList == f.toList) = false := by
                          rw [U.toList_L, U.toList_L, ← HES.out]
                          exact beq_eq_false_iff_ne.2 hee
                        have hv : o = some (some { v with fragment := S r, rawFragment := f }) := by rw [HO.out, if_neg hee, U.S_L]
                        have HV := Lib.hid hv
                        have c13 := cell_at (o := 13) S6.out.u rfl
                        have f13 := free_at (o := 13) S6.out.u
                        have S7 := Lib.hid (S6.out.set (v' := { v with fragment := S r, rawFragment := f }) 13 (.string f) rfl)
                        clear hee hv hrw HRW
                        go_wp2_with (first | (refine wpl_loadV rfl _ rfl _ _ rfl S7.out.u ?_) | (refine wpl_storeV rfl _ _ rfl _ _ _ rfl rfl S7.out.r ?_; intro wR hR oR))
                        refine ret_V2 Tryz.results12 _ _ _ _ rfl rfl rfl rfl hR ?_
                        exact specP_ok _ HV.out (S7.out.ret oR)
end Go.Proofs.YtphkohpphdcjhaaGreatDoor
namespace Go.Proofs.YtphkohpphdcjhaaGreatDoor
open Go.RowKit Go.Proofs.YtphkohpphdcjhaaGreatDoorW.PrintWords
open U (L S)

theorem eqs9 (d : Nat) (a b : ByteArray) (W : World) : (Op.equalIn (d + 1) 9 (.string a) (.string b)).run Tryz.prog W = .ok (a == b) W := by
  simp [Op.equalIn, run_underlying Tryz.underlying9]
theorem eqs4 (d : Nat) (a b : Bool) (W : World) : (Op.equalIn (d + 1) 4 (.bool a) (.bool b)).run Tryz.prog W = .ok (a == b) W := by
  simp [Op.equalIn, run_underlying Tryz.underlying4]
theorem fields23 : Tryz.prog.underlying 23 = some (.struct (Tryz.prog.fieldsOf 23)) := by kernel_rfl
theorem stood23 : Tryz.prog.stoodInHeld 23 = false := by kernel_rfl
/-- A field's type and place, what the two hold there, and whether it is the same. -/
structure Fd where
  (type : TypeId) (off : Nat) (a b : Value) (same : Bool)
theorem eqfs {d : Nat} {xs ys : Array Value} {w : World} : ∀ (fs : List Field) (ks : List Fd), fs.map (fun f => (f.name == "_", f.type, f.offset)) = ks.map (fun k => (false, k.type, k.off)) →
    (∀ k ∈ ks, (part k.type xs k.off).run Tryz.prog w = .ok k.a w ∧ (part k.type ys k.off).run Tryz.prog w = .ok k.b w ∧ (Op.equalIn d k.type k.a k.b).run Tryz.prog w = .ok k.same w) →
    (Op.eqFields d xs ys fs).run Tryz.prog w = .ok (ks.foldr (fun k r => k.same && r) true) w
  | [], [], _, _ => eqf_nil
  | [], _ :: _, h, _ => by simp at h
  | _ :: _, [], h, _ => by simp at h
  | f :: fs, k :: ks, h, hk => by
    simp only [List.map_cons, List.cons.injEq, Prod.mk.injEq] at h
    obtain ⟨⟨h1, h2, h3⟩, h4⟩ := h
    obtain ⟨e1, e2, e3⟩ := hk k (List.mem_cons_self ..)
    rw [← h2, ← h3] at e1 e2
    rw [← h2] at e3
    exact eqf_cons h1 e1 e2 e3 (eqfs fs ks h4 (fun x hx => hk x (List.mem_cons_of_mem _ hx)))
theorem part9 (xs : Array Value) (o : Nat) (s : ByteArray) (w : World) (h : xs[o]? = some (.string s)) : (part 9 xs o).run Tryz.prog w = .ok (.string s) w := by
  unfold part
  simp [Tryz.isAgg9, h]
theorem part4 (xs : Array Value) (o : Nat) (s : Bool) (w : World) (h : xs[o]? = some (.bool s)) : (part 4 xs o).run Tryz.prog w = .ok (.bool s) w := by
  unfold part
  simp [Tryz.isAgg4, h]
def fds (v u : V) : List Fd := [⟨9, 0, .string v.scheme, .string u.scheme, v.scheme == u.scheme⟩, ⟨9, 1, .string v.opq, .string u.opq, v.opq == u.opq⟩, ⟨9, 2, .string v.user, .string u.user, v.user == u.user⟩, ⟨9, 3, .string v.pass, .string u.pass, v.pass == u.pass⟩,
  ⟨4, 4, .bool v.hasUser, .bool u.hasUser, v.hasUser == u.hasUser⟩, ⟨4, 5, .bool v.hasPass, .bool u.hasPass, v.hasPass == u.hasPass⟩, ⟨9, 6, .string v.host, .string u.host, v.host == u.host⟩, ⟨9, 7, .string v.path, .string u.path, v.path == u.path⟩, ⟨9, 8, .string v.rawPath, .string u.rawPath, v.rawPath == u.rawPath⟩,
  ⟨4, 9, .bool v.omitHost, .bool u.omitHost, v.omitHost == u.omitHost⟩, ⟨4, 10, .bool v.forceQuery, .bool u.forceQuery, v.forceQuery == u.forceQuery⟩, ⟨9, 11, .string v.rawQuery, .string u.rawQuery, v.rawQuery == u.rawQuery⟩, ⟨9, 12, .string v.fragment, .string u.fragment, v.fragment == u.fragment⟩, ⟨9, 13, .string v.rawFragment, .string u.rawFragment, v.rawFragment == u.rawFragment⟩]
theorem f23 : (Tryz.prog.fieldsOf 23).toList.map (fun f => (f.name == "_", f.type, f.offset)) = [(false, 9, 0), (false, 9, 1), (false, 9, 2), (false, 9, 3), (false, 4, 4), (false, 4, 5), (false, 9, 6), (false, 9, 7), (false, 9, 8), (false, 4, 9), (false, 4, 10), (false, 9, 11), (false, 9, 12), (false, 9, 13)] := by kernel_rfl
/-- Two references' parts are the same. -/
def eqV (v u : V) : Bool := (fds v u).foldr (fun k r => k.same && r) true
set_option maxRecDepth 100000 in
theorem eqIn23 (d : Nat) (v u : V) (w : World) : (Op.equalIn (d + 2) 23 v.val u.val).run Tryz.prog w = .ok (eqV v u) w := by
  refine eqA_of fields23 stood23 (eqfs _ (fds v u) (f23.trans rfl) ?_)
  intro k hk
  simp only [fds, List.mem_cons, List.not_mem_nil, or_false] at hk
  rcases hk with rfl | rfl | rfl | rfl | rfl | rfl | rfl | rfl | rfl | rfl | rfl | rfl | rfl | rfl
  all_goals first
    | exact ⟨part9 _ _ _ _ rfl, part9 _ _ _ _ rfl, eqs9 _ _ _ _⟩
    | exact ⟨part4 _ _ _ _ rfl, part4 _ _ _ _ rfl, eqs4 _ _ _ _⟩
theorem beq_ba (a b : ByteArray) : (a == b) = true ↔ a = b := by
  rcases a with ⟨a⟩
  rcases b with ⟨b⟩
  show (a == b) = true ↔ _
  simp
theorem eqV_same (v : V) : eqV v v = true := by
  simp only [eqV, fds, List.foldr_cons, List.foldr_nil, Bool.and_eq_true, beq_ba, beq_iff_eq, and_true]
theorem eqV_true {v u : V} (h : eqV v u = true) : v = u := by
  simp only [eqV, fds, List.foldr_cons, List.foldr_nil, Bool.and_eq_true, beq_ba, beq_iff_eq, and_true] at h
  cases v
  cases u
  simp only at h
  simp only [V.mk.injEq]
  exact h
theorem run_eql23 (v u : V) (w : World) : (binOp .eql 23 v.val u.val).run Tryz.prog w = .ok (.bool (eqV v u)) w := by
  simp only [binOp]
  simp [Op.equal, Op.maxDepth, eqIn23 9998 v u w]
theorem run_neq23 (v u : V) (w : World) : (binOp .neq 23 v.val u.val).run Tryz.prog w = .ok (.bool (!eqV v u)) w := by
  simp only [binOp]
  simp [Op.equal, Op.maxDepth, eqIn23 9998 v u w]

/-- A whole struct loaded, under a guard that holds. -/
theorem wpl_loadVg {ops : Array Oper} {rest : List Oper} {o : Oper} {a : Act} {w : World} {Q : Exit → Act → World → Prop} (hw : Region.wanted o (yielded ops a.tmps) = true) (p : Operand) (ho : o.op = .load 23 p)
    (g : Nat) (v : V) (hx : a.eval p = .pointer (some ⟨g, 0, none⟩)) (hI : IsV w g v) (h : wpList Tryz.prog ops Q rest (a.put o.dst v.val) w) : wpList Tryz.prog ops Q (o :: rest) a w :=
  wpList_step fun _ hK => by
    rw [if_pos hw]
    exact wp_load_row 23 p ho g hx 23 v.cells (0, 0) _ hI Tryz.underlying23 rfl (by kernel_rfl) (hK _ _ h)
/-- What a statement answers. -/
def Yes (W : World) (e : Ending) (w' : World) : Prop := e = .returned (.bool true) ∧ Below W.heap.size W w'
/-! ### The sign that the package lives -/
theorem alive_read : U.parse [104, 116, 116, 112, 58, 47, 47, 97, 47, 98] false = some (some { V.zero with scheme := S [104, 116, 116, 112], host := S [97], path := S [47, 98] }) := by kernel_rfl
set_option maxRecDepth 100000 in
set_option maxHeartbeats 1600000 in
theorem c_alive (W : World) (hT : Tab W) : Calls Tryz.prog 14 #[] W fun e w' => e = .returned (.bool true) ∧ Below W.heap.size W w' := by
  have CP := Lib.hid (t_Parse ⟨#[104, 116, 116, 112, 58, 47, 47, 97, 47, 98]⟩ _ W (by decide) hT alive_read)
  have h1 : (S [97]).toList = [97] := U.toList_L _
  have h2 : (S [47, 98]).toList = [47, 98] := U.toList_L _
  clear hT
  go_enter Tryz.func14, Tryz.ntmps14
  go_wp2_with fail
  refine CP.out.mono ?_
  rintro e w1 ⟨b1, rfl⟩
  have B1 := Lib.hid b1
  clear b1
  go_wp2_with fail
  go_ret
  exact ⟨rfl, B1.out.alloc B1.out.size _⟩
end Go.Proofs.YtphkohpphdcjhaaGreatDoor
namespace Go.Proofs.YtphkohpphdcjhaaGreatDoor
open Go.ChangeShapes Go.WideShapes Go.ChangeAt Go.RowKit

theorem own : ownKnob Tryz.prog.godebug = none := by kernel_rfl
theorem gTab : Tryz.prog.globalNamed "loop.example/pub-g03278/pub/neturl.table" = some 0 := by kernel_rfl
theorem gTabType : (Tryz.prog.globals[0]?).map (·.type) = some 122 := by kernel_rfl
theorem cells122 : Tryz.prog.cellsOf 122 = 256 := by kernel_rfl
theorem cells87 : Tryz.prog.cellsOf 87 = 1 := by kernel_rfl
theorem laidOut : laidOutB Tryz.prog = true := by kernel_rfl
theorem varsRowed1 : varsRowed Tryz.prog ["loop.example/pub-g03278/pub/neturl.table"] = true := by kernel_rfl
/-- What the rows list. -/
abbrev listed : List (String × DataW Unit) := [("unicode/utf8.acceptRanges", Rows.laid_unicode_utf8_acceptRanges), ("net/netip.z4", Rows.laid_net_netip_z4), ("net/netip.z6noz", Rows.laid_net_netip_z6noz), ("loop.example/pub-g03278/pub/neturl.table", Rows.laid_loop_example_pub_g03278_pub_neturl_table), ("net/netip.z0", Rows.laid_net_netip_z0), ("unicode.CaseRanges", Rows.laid_unicode_CaseRanges), ("unicode/utf8.first", Rows.laid_unicode_utf8_first)]
def tabZ : List Int := tab.map fun n : Nat => (n : Int)
theorem tab_len : tab.length = 256 := by kernel_rfl
theorem tabZ_len : tabZ.length = 256 := by kernel_rfl
theorem tab_data : (Rows.laid_loop_example_pub_g03278_pub_neturl_table : DataW Unit) = Lib.tabData .u8 tabZ := by kernel_rfl
theorem plainH : (listed.all fun x => x.2.handleName?.isNone) = true := by kernel_rfl
/-- The package's table stands as the rows list it. -/
theorem tab_of {W : World} (h : laidMetH Tryz.prog listed W) : Tab W := by
  rw [MakeChecks.laidMetH_plain _ _ _ plainH] at h
  have h3 := laidMet.tail (laidMet.tail (laidMet.tail h))
  rw [tab_data] at h3
  have hT : Lib.TabIs Tryz.prog W "loop.example/pub-g03278/pub/neturl.table" .u8 tabZ := Lib.tabIs_of_head gTab gTabType Tryz.underlying122 Tryz.underlying87 cells87 cells122 h3
  intro n hn
  have := hT.cell gTab n (by rw [tabZ_len]; exact hn)
  rw [this]
  congr 3
  have h0 : n < tab.length := by rw [tab_len]; exact hn
  simp [tabZ, List.getD, h0]
end Go.Proofs.YtphkohpphdcjhaaGreatDoor
