/- The walk of the reference's joined: a path behind another one. -/
import Derived.Test.YtphkohpphdcjhaaGreatDoorTK13
namespace Go.Proofs.YtphkohpphdcjhaaGreatDoor
open Go.RowKit Go.Proofs.YtphkohpphdcjhaaGreatDoorW.PrintWords
open U (L S)

/-- How much is left: of a text its bytes, of a sign whether it is up. -/
def szOf : Value → Nat
  | .string s => s.size
  | .bool b => if b then 1 else 0
  | _ => 0
/-- Where the elements' loop stands: what comes of it in the end is r. -/
def Joins (r : U.B) (o e l : U.B) (f m : Bool) : Prop :=
  U.Led (o, f) ∧ r = if m = true then U.jEnd ((U.els l).foldl U.jStep (o, f)).1 ((U.els l).getLastD []) else U.jEnd o e
theorem Joins.start (l : U.B) : Joins (U.jAll l) [47] [] l true true := ⟨U.led_start, rfl⟩
theorem Joins.step {r o e l : U.B} {f : Bool} (h : Joins r o e l f true) (a b : U.B) (m : Bool) (hc : U.cut 47 l = (a, b, m)) :
    Joins r (U.jStep (o, f) a).1 a b (U.jStep (o, f) a).2 m := by
  obtain ⟨h1, h2⟩ := h
  refine ⟨(U.iStep_is h1 a).2, ?_⟩
  rw [if_pos rfl, U.els_cut, hc] at h2
  cases m
  · rw [if_neg (show ¬ ((a, b, false).2.2 = true) by simp)] at h2
    rw [if_neg (by decide)]
    have := (U.cut_none 47 l (by rw [hc])).1
    rw [hc] at this
    simp only at this
    rw [h2, this]
    rfl
  · rw [if_pos (show (a, b, true).2.2 = true from rfl)] at h2
    rw [if_pos rfl, h2]
    congr 1
    have hn := U.els_ne b
    simp only
    cases hb : U.els b with
    | nil => exact absurd hb hn
    | cons x y => simp [List.getLastD]
theorem Joins.fin {r o e l : U.B} {f : Bool} (h : Joins r o e l f false) : r = U.jEnd o e := h.2
/-- The three ways of a step. -/
theorem step_dot (o : U.B) (f : Bool) : U.jStep (o, f) [46] = (o, false) := rfl
theorem step_up (o : U.B) (f : Bool) : U.jStep (o, f) [46, 46] = if 0 < U.lastI 47 (o.drop 1) then (o.take (1 + (U.lastI 47 (o.drop 1)).toNat), f) else ([47], true) := rfl
theorem step_on (o e : U.B) (f : Bool) (h1 : e ≠ [46]) (h2 : e ≠ [46, 46]) : U.jStep (o, f) e = ((if f then o else o ++ [47]) ++ e, false) := by
  unfold U.jStep
  rw [if_neg h1, if_neg h2]
theorem el_ways (e : ByteArray) : (L e = [46] ∧ e.toList = [46]) ∨ (L e = [46, 46] ∧ e.toList = [46, 46]) ∨ (L e ≠ [46] ∧ L e ≠ [46, 46] ∧ (e.toList == [46]) = false ∧ (e.toList == [46, 46]) = false) := by
  rw [U.toList_L]
  by_cases h : L e = [46]
  · exact .inl ⟨h, h⟩
  · by_cases h2 : L e = [46, 46]
    · exact .inr (.inl ⟨h2, h2⟩)
    · exact .inr (.inr ⟨h, h2, by simpa using h, by simpa using h2⟩)
theorem cut_sizes {s a b : ByteArray} {m : Bool} (h : U.cut 47 (L s) = (L a, L b, m)) : (m = true → s.size = a.size + b.size + 1) ∧ (m = false → a.size = s.size ∧ b.size = 0) := by
  constructor
  · intro hm
    have := U.cut_found 47 (L s) (by rw [h]; exact hm)
    rw [h] at this
    have := congrArg List.length this
    rw [List.length_append, List.length_cons] at this
    simp only [U.len_L] at this
    omega
  · intro hm
    have := U.cut_none 47 (L s) (by rw [h]; exact hm)
    rw [h] at this
    have h1 := congrArg List.length this.1
    have h2 := congrArg List.length this.2
    simp only [U.len_L, List.length_nil] at h1 h2
    omega
/-- The base and the text behind it. -/
theorem full_ways (b r : ByteArray) : (r.toList = [] ∧ U.jFull (L b) (L r) = L b) ∨
    ((r.toList == []) = false ∧ ∃ hz : 0 < r.size, (((r[0]'hz).toNat : Int) == 47) = true ∧ U.jFull (L b) (L r) = L r) ∨
    ((r.toList == []) = false ∧ ∃ hz : 0 < r.size, (((r[0]'hz).toNat : Int) == 47) = false ∧ U.jFull (L b) (L r) = (L b).take (U.lastI 47 (L b) + 1).toNat ++ L r) := by
  have e47 : ((47 : UInt8).toNat : Int) = 47 := rfl
  rcases head_ways r 47 with ⟨h1, h2⟩ | ⟨h1, hz, ⟨h2, h3⟩ | ⟨h2, h3⟩⟩
  · refine .inl ⟨h1, ?_⟩
    rw [U.jFull, if_pos (by rw [← U.toList_L]; exact h1)]
  · refine .inr (.inr ⟨h1, hz, by rw [← e47]; simpa using h2, ?_⟩)
    rw [U.jFull, if_neg (by rw [← U.toList_L]; simpa using h1), if_pos h3]
  · refine .inr (.inl ⟨h1, hz, by rw [← e47]; simpa using h2, ?_⟩)
    rw [U.jFull, if_neg (by rw [← U.toList_L]; simpa using h1), if_neg (by simpa using h3)]

/-- What is written in the end, the sign behind the first one looked at. -/
def jTail (o : U.B) : U.B := if o.tail.head? = some 47 then o.tail else o
theorem jEnd_is (o e : U.B) : U.jEnd o e = jTail (U.jEnd1 o e) := rfl
theorem tail_ways (o : ByteArray) : (¬ (1 : Int) < (o.size : Int) ∧ jTail (L o) = L o) ∨
    ((1 : Int) < (o.size : Int) ∧ ∃ hz : 1 < o.size, (((o[1]'hz).toNat : Int) == 47) = true ∧ jTail (L o) = (L o).drop 1) ∨
    ((1 : Int) < (o.size : Int) ∧ ∃ hz : 1 < o.size, (((o[1]'hz).toNat : Int) == 47) = false ∧ jTail (L o) = L o) := by
  by_cases h : 1 < o.size
  · have hl : 1 < (L o).length := by rw [U.len_L]; exact h
    have ht : (L o).tail.head? = some (o[1]'h) := by
      rw [← List.drop_one, U.drop_at _ _ hl]
      rfl
    by_cases h47 : o[1]'h = 47
    · refine .inr (.inl ⟨by omega, h, by rw [h47]; rfl, ?_⟩)
      rw [jTail, ht, h47, if_pos rfl, List.drop_one]
    · refine .inr (.inr ⟨by omega, h, ?_, ?_⟩)
      · have : (o[1]'h).toNat ≠ 47 := fun e => h47 (UInt8.toNat_inj.1 (by simpa using e))
        simp only [beq_eq_false_iff_ne, ne_eq]
        omega
      · rw [jTail, ht, if_neg (by simpa using h47)]
  · refine .inl ⟨by omega, ?_⟩
    rw [jTail, if_neg]
    intro e
    have hl : ¬ 1 < (L o).length := by rw [U.len_L]; exact h
    rw [← List.drop_one, List.drop_eq_nil_of_le (by omega)] at e
    exact absurd e (by simp)
theorem d_trans {a b c : World} (h : Drawn0 a b) (k : Drawn0 b c) : Drawn0 a c := by
  obtain ⟨n, rfl⟩ := k
  exact h.step n

set_option maxRecDepth 100000 in
set_option maxHeartbeats 6400000 in
theorem c_joined (b r : ByteArray) (W : World) (hb : b.size ≤ 100000) (hr : r.size ≤ 100000) :
    Calls Tryz.prog 53 #[.string b, .string r] W fun e w' => e = .returned (.string (S (U.joined (L b) (L r)))) ∧ Drawn0 W w' := by
  obtain ⟨o, HO⟩ : ∃ o, Hid (S (U.joined (L b) (L r)) = o) := ⟨_, rfl⟩
  rw [HO.out]
  obtain ⟨la, HLA⟩ : ∃ x, Hid (U.lastI 47 (L b) = x) := ⟨_, rfl⟩
  have hl1 : -1 ≤ la := HLA.out ▸ U.lastI_ge _ _
  have hl2 : la < b.size := by have := HLA.out ▸ U.lastI_lt 47 (L b); rwa [U.len_L] at this
  have hf0 : (S (U.jFull (L b) (L r))).size ≤ 200000 := by
    rw [U.size_S]
    unfold U.jFull
    split
    · rw [U.len_L]; omega
    · split
      · rw [List.length_append, List.length_take, U.len_L, U.len_L]; omega
      · rw [U.len_L]; omega
  obtain ⟨full, HF⟩ : ∃ x, Hid (S (U.jFull (L b) (L r)) = x) := ⟨_, rfl⟩
  rw [HF.out] at hf0
  have HJ : Hid (U.joined (L b) (L r) = if L full = [] then [] else U.jAll (L full)) := Lib.hid (by rw [← HF.out]; rfl)
  go_enter Tryz.func53, Tryz.ntmps53
  go_upto_block 0 with fail
  go_cut [5] (fun t wx => t = .string full ∧ Drawn0 W wx)
  case first =>
    as_aux_lemma =>
    rcases full_ways b r with ⟨h1, h2⟩ | ⟨h1, hz, h2, h3⟩ | ⟨h1, hz, h2, h3⟩
    · have hh := Lib.hid h2
      clear h2
      go_wp2_with fail
      go_meet
      exact ⟨by rw [← HF.out, hh.out, U.S_L], Drawn0.refl _⟩
    · have hh := Lib.hid h3
      clear h3
      go_wp2_with fail
      go_meet
      exact ⟨by rw [← HF.out, hh.out, U.S_L], Drawn0.refl _⟩
    · have hh := Lib.hid h3
      clear h3
      go_wp2_with fail
      refine (c_last b 47 _ la W (by unfold Sm; omega) rfl HLA).mono ?_
      rintro e w1 ⟨rfl, d1⟩
      have D1 := Lib.hid d1
      clear d1
      go_wp2_with fail
      go_meet
      refine ⟨?_, D1.out⟩
      rw [← HF.out, hh.out, HLA.out, U.ext_to, U.app_S, U.L_S]
  obtain ⟨rfl, d1⟩ := hcut
  have D1 := Lib.hid d1
  clear d1 HF hl1 hl2 HLA
  rcases empty_ways full with ⟨e1, e2⟩ | ⟨e1, e2⟩
  · have hj : U.joined (L b) (L r) = [] := by rw [HJ.out, if_pos e1]
    have HJ2 := Lib.hid hj
    clear hj e1
    go_wp2_with fail
    go_ret
    exact ⟨by rw [← HO.out, HJ2.out]; rfl, D1.out⟩
  · have hj : U.joined (L b) (L r) = U.jAll (L full) := by rw [HJ.out, if_neg e1]
    obtain ⟨R, HR⟩ : ∃ R, Hid (U.joined (L b) (L r) = R) := ⟨_, rfl⟩
    rw [HR.out] at HO
    have HJ0 : Hid (Joins R [47] [] (L full) true true) := by rw [← HR.out, hj]; exact Lib.hid (Joins.start _)
    clear hj e1 HJ HR hb hr
    go_upto_region 9 with fail
    go_loopw [6, 7, 8, 9, 10] (fun o f e l m w' => ∃ (o' e' l' : ByteArray) (f' m' : Bool), o = .string o' ∧ f = .bool f' ∧ e = .string e' ∧ l = .string l' ∧ m = .bool m' ∧ o'.size + l'.size + szOf m ≤ 200002 ∧ Hid (Joins R (L o') (L e') (L l') f' m') ∧ Hid (Drawn0 W w')) (fun _ _ _ l m _ => szOf l + szOf m)
    case atStart => exact ⟨_, _, _, _, _, rfl, rfl, rfl, rfl, rfl, by show 1 + full.size + 1 ≤ _; omega, HJ0, D1⟩
    case round =>
      clear HJ0 D1
      obtain ⟨o1, e1, l1, f1, m1, rfl, rfl, rfl, rfl, rfl, hsz, HJ, HD⟩ := hrel
      cases m1
      · have hr : R = jTail (U.jEnd1 (L o1) (L e1)) := HJ.out.fin
        have HR := Lib.hid hr
        clear hr HJ
        have hs0 : szOf (.bool false) = 0 := rfl
        have hso : o1.size ≤ 200002 := by omega
        clear hsz hs0
        obtain ⟨c, HC⟩ : ∃ c, Hid (decide (L e1 = [46] ∨ L e1 = [46, 46]) = c) := ⟨_, rfl⟩
        go_upto_region 23 with fail
        go_cut [64] (fun t wx => t = .bool c ∧ wx = wr)
        case first =>
          rcases el_ways e1 with ⟨x1, x2⟩ | ⟨x1, x2⟩ | ⟨x1, x2, x3, x4⟩
          · have : c = true := by rw [← HC.out]; exact decide_eq_true (.inl x1)
            subst this
            clear x1
            go_wp2_with fail
            go_meet
            exact ⟨rfl, rfl⟩
          · have : c = true := by rw [← HC.out]; exact decide_eq_true (.inr x1)
            subst this
            clear x1
            go_wp2_with fail
            go_meet
            exact ⟨rfl, rfl⟩
          · have : c = false := by rw [← HC.out]; exact decide_eq_false (by rintro (h | h); exact x1 h; exact x2 h)
            subst this
            clear x1 x2
            go_wp2_with fail
            go_meet
            exact ⟨rfl, rfl⟩
        obtain ⟨rfl, e⟩ := hcut
        obtain rfl := e.symm
        go_upto_if 64 with fail
        go_cut [6] (fun t wx => ∃ o2 : ByteArray, t = .string o2 ∧ wx = wr ∧ Hid (R = jTail (L o2)))
        case first =>
          cases c
          · have hq : U.jEnd1 (L o1) (L e1) = L o1 := by rw [U.jEnd1, if_neg (of_decide_eq_false HC.out)]
            have HQ := Lib.hid hq
            clear hq
            go_wp2_with fail
            go_meet
            exact ⟨o1, rfl, rfl, by rw [← HQ.out]; exact HR⟩
          · have hq : U.jEnd1 (L o1) (L e1) = L (o1 ++ ⟨#[47]⟩) := by rw [U.jEnd1, if_pos (of_decide_eq_true HC.out), U.app_S, U.L_S]; rfl
            have HQ := Lib.hid hq
            clear hq
            go_wp2_with fail
            go_meet
            exact ⟨_, rfl, rfl, by rw [← HQ.out]; exact HR⟩
        obtain ⟨o2, rfl, e, HR2⟩ := hcut
        obtain rfl := e.symm
        clear HR HC hso
        rcases tail_ways o2 with ⟨t1, t2⟩ | ⟨t1, hz, t2, t3⟩ | ⟨t1, hz, t2, t3⟩
        · rw [t2] at HR2
          clear t2
          go_wp2_with fail
          go_ret
          exact ⟨by rw [← HO.out, HR2.out, U.S_L] <;> rfl, HD.out⟩
        · rw [t3] at HR2
          clear t3
          go_wp2_with fail
          go_ret
          exact ⟨by rw [← HO.out, HR2.out, ← U.ext_from] <;> rfl, HD.out⟩
        · rw [t3] at HR2
          clear t3
          go_wp2_with fail
          go_ret
          exact ⟨by rw [← HO.out, HR2.out, U.S_L] <;> rfl, HD.out⟩
      · obtain ⟨a1, H1⟩ : ∃ x, (U.cut 47 (L l1)).1 = L x := ⟨S _, rfl⟩
        obtain ⟨a2, H2⟩ : ∃ x, (U.cut 47 (L l1)).2.1 = L x := ⟨S _, rfl⟩
        obtain ⟨a3, H3⟩ : ∃ x, (U.cut 47 (L l1)).2.2 = x := ⟨_, rfl⟩
        have HCU : Hid (U.cut 47 (L l1) = (L a1, L a2, a3)) := by rw [← H1, ← H2, ← H3]; exact Lib.hid rfl
        clear H1 H2 H3
        have hsum : a1.size + a2.size + szOf (.bool a3) = l1.size := by
          have := cut_sizes HCU.out
          cases a3
          · have := this.2 rfl
            show _ + 0 = _
            omega
          · have := this.1 rfl
            show _ + 1 = _
            omega
        have hs1 : szOf (.bool true) = 1 := rfl
        have ho1 : 1 ≤ o1.size := by
          obtain ⟨x, hx⟩ := HJ.out.1.1
          have := congrArg List.length hx
          simp only [U.len_L, List.length_cons] at this
          omega
        have HN := Lib.hid (HJ.out.step (L a1) (L a2) a3 HCU.out)
        have hms : szOf (.string a2) + szOf (.bool a3) < szOf (.string l1) + szOf (.bool true) := by
          show a2.size + _ < l1.size + 1
          omega
        have HMS := Lib.hid hms
        clear hms
        go_wp2_with fail
        refine (c_cut l1 a1 a2 47 _ a3 wr (by unfold Sm; omega) rfl HCU).mono ?_
        rintro e w1 ⟨rfl, d1⟩
        have D1 := Lib.hid (d_trans HD.out d1)
        clear d1 HD HCU
        rcases el_ways a1 with ⟨x1, x2⟩ | ⟨x1, x2⟩ | ⟨x1, x2, x3, x4⟩
        · rw [x1, step_dot, ← x1] at HN
          clear x1
          go_wp2_with fail
          go_roundw
          case rel => exact ⟨o1, a1, a2, false, a3, rfl, rfl, rfl, rfl, rfl, by omega, HN, D1⟩
          case measure => exact HMS.out
        · obtain ⟨la, HLA⟩ : ∃ x, Hid (U.lastI 47 ((L o1).drop 1) = x) := ⟨_, rfl⟩
          have hl1 : -1 ≤ la := HLA.out ▸ U.lastI_ge _ _
          have hl2 : la < (o1.size : Int) - 1 := by
            have := HLA.out ▸ U.lastI_lt 47 ((L o1).drop 1)
            rw [List.length_drop, U.len_L] at this
            omega
          have ho1' : (1 : Int) ≤ (o1.size : Int) := by omega
          rw [x1, step_up, HLA.out, ← x1] at HN
          clear x1
          by_cases h0 : 0 < la
          · rw [if_pos h0] at HN
            go_wp2_with fail
            refine (c_last (o1.extract 1 o1.size) 47 _ la w1 (by unfold Sm; rw [ByteArray.size_extract]; omega) rfl (by rw [U.ext_from, U.L_S]; exact HLA)).mono ?_
            rintro e w2 ⟨rfl, d2⟩
            have D2 := Lib.hid (d_trans D1.out d2)
            clear d2 D1 HLA
            go_wp2_with fail
            go_roundw
            case rel => exact ⟨o1.extract 0 ((1 : Int) + la).toNat, a1, a2, f1, a3, rfl, rfl, rfl, rfl, rfl, by rw [ByteArray.size_extract]; omega, by rw [U.ext_to, U.L_S, show ((1 : Int) + la).toNat = 1 + la.toNat by omega]; exact HN, D2⟩
            case measure => exact HMS.out
          · rw [if_neg h0] at HN
            go_wp2_with fail
            refine (c_last (o1.extract 1 o1.size) 47 _ la w1 (by unfold Sm; rw [ByteArray.size_extract]; omega) rfl (by rw [U.ext_from, U.L_S]; exact HLA)).mono ?_
            rintro e w2 ⟨rfl, d2⟩
            have D2 := Lib.hid (d_trans D1.out d2)
            clear d2 D1 HLA
            go_wp2_with fail
            go_roundw
            case rel => exact ⟨⟨#[47]⟩, a1, a2, true, a3, rfl, rfl, rfl, rfl, rfl, by show 1 + _ + _ ≤ _; omega, HN, D2⟩
            case measure => exact HMS.out
        · rw [step_on _ _ _ x1 x2] at HN
          clear x1 x2
          cases f1
          · go_wp2_with fail
            go_roundw
            case rel => exact ⟨o1 ++ ⟨#[47]⟩ ++ a1, a1, a2, false, a3, rfl, rfl, rfl, rfl, rfl, by rw [ByteArray.size_append, ByteArray.size_append]; show o1.size + 1 + _ + _ + _ ≤ _; omega, by rw [U.app_S, U.app_S, U.L_S, U.L_S]; exact HN, D1⟩
            case measure => exact HMS.out
          · go_wp2_with fail
            go_roundw
            case rel => exact ⟨o1 ++ a1, a1, a2, false, a3, rfl, rfl, rfl, rfl, rfl, by rw [ByteArray.size_append]; omega, by rw [U.app_S, U.L_S]; exact HN, D1⟩
            case measure => exact HMS.out
end Go.Proofs.YtphkohpphdcjhaaGreatDoor
