/- The walk of the authority of the reference; structs as one step. -/
import Derived.Test.YtphkohpphdcjhaaGreatDoorTK2
import Derived.WalkSpells
import Derived.WalkLawsBesides
import Derived.Deep.QuietTactic
import Derived.BigQuiet
import Derived.Laws.Tables
namespace Go.Proofs.YtphkohpphdcjhaaGreatDoor
open Go.RowKit Go.Proofs.YtphkohpphdcjhaaGreatDoorW.PrintWords
open U (L S)

theorem cell_at {w : World} {g o : Nat} {cs : Array Value} {t : TypeId} {v : Value} (h : w.heap[g]? = some (.cells cs t (0, 0))) (hv : cs[o]? = some v) : w.cell? ⟨g, o, none⟩ = some v := by simp [World.cell?, h, hv]
theorem free_at {w : World} {g o : Nat} {cs : Array Value} {t : TypeId} (h : w.heap[g]? = some (.cells cs t (0, 0))) : w.frozen? ⟨g, o, none⟩ = false := by simp [World.frozen?, h]
theorem heap_lt {w : World} {g : Nat} {o : Obj} (h : w.heap[g]? = some o) : g < w.heap.size := (Array.getElem?_eq_some_iff.1 h).1
theorem heap_new (W : World) (o : Obj) (g : Nat) (h : g = W.heap.size) : (W.alloc o).heap[g]? = some o := by
  subst h
  show (W.heap.push o)[W.heap.size]? = _
  simp
theorem heap_set {w : World} {g o : Nat} {cs : Array Value} {t : TypeId} {fr : Nat × Nat} (h : w.heap[g]? = some (.cells cs t fr)) (u : Value) : (w.setCell ⟨g, o, none⟩ u).heap[g]? = some (.cells (cs.setIfInBounds o u) t fr) := by
  simp [World.setCell, Array.getElem?_modify, h]
theorem IsV.keep {w w' : World} {g : Nat} {v : V} (h : IsV w g v) (hb : Below w.heap.size w w') : IsV w' g v := (hb.block g (heap_lt h)).trans h
theorem IsV.drewN {w : World} {g : Nat} {v : V} (h : IsV w g v) (n : Nat) : IsV (w.drewN n) g v := h

/-- What an authority leaves of a reference. -/
def AuthPost (v : V) (g : Nat) (w : World) (o : Option (Option (U.B × Option (U.B × U.B × Bool)))) (e : Ending) (w' : World) : Prop :=
  Only g w w' ∧ match o with
  | none => e = .returned (.tuple #[.bool true, .bool false]) ∧ IsV w' g v
  | some none => e = .returned (.tuple #[.bool false, .bool true]) ∧ ∃ v', IsV w' g v'
  | some (some (h, who)) => e = .returned (.tuple #[.bool true, .bool true]) ∧
      IsV w' g { v with host := S h, user := S ((who.map (·.1)).getD []), pass := S ((who.map (·.2.1)).getD []), hasUser := who.isSome, hasPass := (who.map (·.2.2)).getD false }

/-- The user behind the host. -/
def authWho (hh who : U.B) : Option (Option (U.B × Option (U.B × U.B × Bool))) :=
  if !who.all U.user1 then some none
  else match U.unesc 1 (U.cut 58 who).1, U.unesc 1 (U.cut 58 who).2.1 with
    | some n, some p => some (some (hh, some (n, p, (U.cut 58 who).2.2)))
    | _, _ => some none
def authTail (l : U.B) (a : Int) (h : U.B) : Option (Option (U.B × Option (U.B × U.B × Bool))) :=
  match U.unesc 2 h with
  | none => some none
  | some hh => if a < 0 then some (some (hh, none)) else authWho hh (l.take a.toNat)
/-- The authority in its parts. -/
def authIn (l : U.B) (a : Int) (h m : U.B) (f : Bool) : Option (Option (U.B × Option (U.B × U.B × Bool))) :=
  if U.among 91 h || U.among 93 h then none
  else if f && U.among 58 m then none
  else if f && !U.port (58 :: m) then some none
  else authTail l a h
theorem authIn_eq (l : U.B) : U.authority l = authIn l (U.lastI 64 l) (l.drop (U.lastI 64 l + 1).toNat) (U.cut 58 (l.drop (U.lastI 64 l + 1).toNat)).2.1 (U.cut 58 (l.drop (U.lastI 64 l + 1).toNat)).2.2 := rfl

theorem c_Unescape_any (s r : ByteArray) (b : Bool) (w : Nat) (m : Int) (W : World) (hs : Sm s) (hm : m = (w : Int)) (H : Hid ((U.unesc w (L s)).getD [] = L r)) (Hb : Hid ((U.unesc w (L s)).isSome = b)) :
    Calls Tryz.prog 37 #[.string s, .int .i64 m] W fun e w' => e = .returned (.tuple #[.string r, .bool b]) ∧ Below W.heap.size W w' := by
  have h1 := H.out
  have h2 := Hb.out
  cases h : U.unesc w (L s) with
  | none =>
    rw [h] at h1 h2
    have e1 : r = E := U.L_nil h1.symm
    have e2 : b = false := h2.symm
    subst e1 e2
    exact c_Unescape_no s w m W hs hm h
  | some q =>
    rw [h] at h1 h2
    have e1 : q = L r := h1
    have e2 : b = true := h2.symm
    subst e1 e2
    exact c_Unescape s r w m W hs hm h

theorem all_take_step {who : ByteArray} {k : Nat} (hk : k < who.size) (h : ((L who).take k).all U.user1 = true) (hc : U.user1 (who[k]'hk) = true) : ((L who).take (k + 1)).all U.user1 = true := by
  rw [U.take_at _ _ (by rw [U.len_L]; exact hk), List.all_append, h, Bool.true_and]
  show (U.user1 (who[k]'hk) && true) = true
  rw [hc]
  rfl
theorem all_not {who : ByteArray} {k : Nat} (hk : k < who.size) (hc : U.user1 (who[k]'hk) = false) : (L who).all U.user1 = false := by
  rw [Bool.eq_false_iff]
  intro h
  rw [List.all_eq_true] at h
  have := h ((L who)[k]'(by rw [U.len_L]; exact hk)) (List.getElem_mem _)
  have e : U.user1 (who[k]'hk) = true := this
  rw [hc] at e
  exact absurd e (by decide)

theorem setUser {W : World} {g : Nat} {v : V} (h : IsV W g v) (n p : ByteArray) (b : Bool) :
    IsV ((((W.setCell ⟨g, 2, none⟩ (.string n)).setCell ⟨g, 3, none⟩ (.string p)).setCell ⟨g, 4, none⟩ (.bool true)).setCell ⟨g, 5, none⟩ (.bool b)) g { v with user := n, pass := p, hasUser := true, hasPass := b } := by
  have := heap_set (o := 5) (heap_set (o := 4) (heap_set (o := 3) (heap_set (o := 2) h (.string n)) (.string p)) (.bool true)) (.bool b)
  refine this.trans ?_
  simp [V.cells]
theorem getD_some {o : Option U.B} {r : ByteArray} (h : o.getD [] = L r) (he : o.isSome = true) : o = some (L r) := by
  cases o with
  | none => exact absurd he (by decide)
  | some q => exact congrArg some h
theorem none_of {o : Option U.B} (he : o.isSome = false) : o = none := by
  cases o with
  | none => rfl
  | some q => exact absurd he (by simp)
theorem who_ok {hh who na pa r1 r2 : ByteArray} {both : Bool} (hk : (L who).all U.user1 = true) (hc : U.cut 58 (L who) = (L na, L pa, both))
    (h1 : (U.unesc 1 (L na)).getD [] = L r1) (e1 : (U.unesc 1 (L na)).isSome = true) (h2 : (U.unesc 1 (L pa)).getD [] = L r2) (e2 : (U.unesc 1 (L pa)).isSome = true) :
    authWho (L hh) (L who) = some (some (L hh, some (L r1, L r2, both))) := by
  simp [authWho, hk, hc, getD_some h1 e1, getD_some h2 e2]
theorem who_no {hh who na pa : ByteArray} {both : Bool} (hc : U.cut 58 (L who) = (L na, L pa, both))
    (h : (U.unesc 1 (L na)).isSome = false ∨ (U.unesc 1 (L pa)).isSome = false) :
    authWho (L hh) (L who) = some none := by
  unfold authWho
  rw [hc]
  split
  · rfl
  · rcases h with h | h
    · rw [none_of h]
    · rw [none_of h]
      cases U.unesc 1 (L na) <;> rfl

theorem post_untold {v : V} {g : Nat} {w w' : World} {o} (ho : o = none) (h : Only g w w') (hi : IsV w' g v) : AuthPost v g w o (.returned (.tuple #[.bool true, .bool false])) w' := by
  subst ho
  exact ⟨h, rfl, hi⟩
theorem post_no {v v' : V} {g : Nat} {w w' : World} {o} (ho : o = some none) (h : Only g w w') (hi : IsV w' g v') : AuthPost v g w o (.returned (.tuple #[.bool false, .bool true])) w' := by
  subst ho
  exact ⟨h, rfl, v', hi⟩

set_option maxHeartbeats 1600000 in
theorem auth_any (w : World) (g : Nat) (v : V) (s : ByteArray) (hs0 : s.size ≤ 100000000) (hg : IsV w g v) (hv : v.user = E ∧ v.pass = E ∧ v.hasUser = false ∧ v.hasPass = false) :
    Calls Tryz.prog 62 #[.pointer (some ⟨g, 0, none⟩), .string s] w (AuthPost v g w (U.authority (L s))) := by
  have hs : Sm s := by unfold Sm; omega
  obtain ⟨o, HO⟩ : ∃ o, Hid (U.authority (L s) = o) := ⟨_, rfl⟩
  rw [HO.out]
  have a0 := U.lastI_ge 64 (L s)
  have a1 := U.lastI_lt 64 (L s)
  rw [U.len_L] at a1
  obtain ⟨a, HA⟩ : ∃ a, Hid (U.lastI 64 (L s) = a) := ⟨_, rfl⟩
  rw [HA.out] at a0 a1
  have hO := HO.out
  rw [authIn_eq, HA.out] at hO
  obtain ⟨h, Hh⟩ : ∃ h, Hid (s.extract (a + 1).toNat s.size = h) := ⟨_, rfl⟩
  have hL : (L s).drop (a + 1).toNat = L h := by rw [← Hh.out, U.ext_from, U.L_S]
  have hhs : h.size ≤ s.size := by rw [← U.len_L, ← hL, ← U.len_L]; simp
  have hSh : Sm h := by unfold Sm at *; omega
  rw [hL] at hO
  obtain ⟨c1, HC1⟩ : ∃ c1, (U.cut 58 (L h)).1 = L c1 := ⟨S _, rfl⟩
  obtain ⟨m, HM⟩ : ∃ m, (U.cut 58 (L h)).2.1 = L m := ⟨S _, rfl⟩
  obtain ⟨f, HF⟩ : ∃ f, (U.cut 58 (L h)).2.2 = f := ⟨_, rfl⟩
  have HCUT : Hid (U.cut 58 (L h) = (L c1, L m, f)) := by rw [← HC1, ← HM, ← HF]; rfl
  have hms : m.size ≤ s.size := by rw [← U.len_L, ← HM]; exact Nat.le_trans (U.cut_len2 _ _) (by rw [U.len_L]; exact hhs)
  have hSm : Sm m := by unfold Sm at *; omega
  rw [HM, HF] at hO
  obtain ⟨b1, HB1⟩ : ∃ b, Hid (U.among 91 (L h) = b) := ⟨_, rfl⟩
  obtain ⟨b2, HB2⟩ : ∃ b, Hid (U.among 93 (L h) = b) := ⟨_, rfl⟩
  obtain ⟨b3, HB3⟩ : ∃ b, Hid (U.among 58 (L m) = b) := ⟨_, rfl⟩
  have H0 := Lib.hid hO
  have HG := Lib.hid hg
  have HV := Lib.hid hv
  clear hg hv hL hO HO HC1 HM HF
  go_enter Tryz.func62, Tryz.ntmps62
  go_wp2_with fail
  refine (c_last s 64 64 a _ hs rfl HA).mono ?_
  rintro e w1 ⟨rfl, ⟨n, rfl⟩⟩
  go_wp2_with fail
  rw [Hh.out]
  clear Hh
  refine (c_among h 91 91 b1 _ hSh rfl HB1).mono ?_
  rintro e w1 ⟨rfl, ⟨n1, rfl⟩⟩
  cases b1
  case true =>
    go_wp2_with fail
    go_ret2
    exact post_untold (by rw [← H0.out]; simp [authIn, HB1.out]) ((Only.refl g w).drewN _) (HG.out.drewN _)
  go_wp2_with fail
  refine (c_among h 93 93 b2 _ hSh rfl HB2).mono ?_
  rintro e w1 ⟨rfl, ⟨n2, rfl⟩⟩
  cases b2
  case true =>
    go_wp2_with fail
    go_ret2
    exact post_untold (by rw [← H0.out]; simp [authIn, HB2.out]) ((Only.refl g w).drewN _) (HG.out.drewN _)
  go_wp2_with fail
  refine (c_cut h c1 m 58 58 f _ hSh rfl HCUT).mono ?_
  rintro e w1 ⟨rfl, ⟨n3, rfl⟩⟩
  cases f
  case' true =>
    go_wp2_with fail
    refine (c_among m 58 58 b3 _ hSm rfl HB3).mono ?_
    rintro e w1 ⟨rfl, ⟨n4, rfl⟩⟩
    cases b3
    case true =>
      go_wp2_with fail
      go_ret2
      exact post_untold (by rw [← H0.out]; simp [authIn, HB1.out, HB2.out, HB3.out]) ((Only.refl g w).drewN _) (HG.out.drewN _)
    obtain ⟨b5, HB5⟩ : ∃ b, Hid (U.port (L (⟨#[58]⟩ ++ m)) = b) := ⟨_, rfl⟩
    have hap : L (⟨#[58]⟩ ++ m) = 58 :: L m := by rw [U.app_S, U.L_S]; rfl
    have HB5' := HB5.out
    rw [hap] at HB5'
    have HB5' := Lib.hid HB5'
    have hSp : Sm (⟨#[58]⟩ ++ m) := by unfold Sm at *; rw [ByteArray.size_append]; show 1 + m.size ≤ _; omega
    clear hap
    go_wp2_with fail
    refine (c_port _ b5 _ hSp HB5).mono ?_
    rintro e w1 ⟨rfl, ⟨n5, rfl⟩⟩
    cases b5
    case false =>
      go_wp2_with fail
      go_ret2
      exact post_no (by rw [← H0.out]; simp [authIn, HB1.out, HB2.out, HB3.out, HB5'.out]) ((Only.refl g w).drewN _) (HG.out.drewN _)
    have H1 : Hid (authTail (L s) a (L h) = o) := by
      have := H0.out
      simp only [authIn, HB1.out, HB2.out, HB3.out, HB5'.out] at this
      exact this
    clear H0 HB1 HB2 HB3 HB5 HB5' hSp
    go_wp2_with fail
  case' false =>
    have H1 : Hid (authTail (L s) a (L h) = o) := by
      have := H0.out
      simp only [authIn, HB1.out, HB2.out] at this
      exact this
    clear H0 HB1 HB2 HB3
    go_wp2_with fail
  all_goals
    obtain ⟨q, HQ⟩ : ∃ q, Hid (U.unesc 2 (L h) = q) := ⟨_, rfl⟩
    cases q with
    | none =>
      refine (c_Unescape_no h 2 2 _ hSh rfl HQ).mono ?_
      rintro e w2 ⟨rfl, b2⟩
      go_wp2_with fail
      go_ret2
      exact post_no (by rw [← H1.out]; simp [authTail, HQ.out]) (((Only.refl g w).drewN _).then_ b2) ((HG.out.drewN _).keep b2)
    | some q =>
      refine (c_Unescape h (S q) 2 2 _ hSh rfl HQ).mono ?_
      obtain ⟨hh, Hhh⟩ : ∃ hh, Hid (S q = hh) := ⟨_, rfl⟩
      have hq : q = L hh := by rw [← Hhh.out, U.L_S]
      subst hq
      rw [Hhh.out]
      rintro e w2 ⟨rfl, b2⟩
      have g2 := (HG.out.drewN _).keep b2
      have o2 := ((Only.refl g w).drewN _).then_ b2
      have c6 := cell_at (o := 6) g2 rfl
      have f6 := free_at (o := 6) g2
      have G2 := Lib.hid g2
      have O2 := Lib.hid o2
      clear b2 g2 o2
      by_cases han : a < 0
      · go_wp2_with fail
        go_ret2
        have ho : o = some (some (L hh, none)) := by rw [← H1.out]; simp [authTail, HQ.out, han]
        subst ho
        refine ⟨O2.out.setCell _ _, rfl, ?_⟩
        have := heap_set (o := 6) G2.out (.string hh)
        obtain ⟨v1, v2, v3, v4⟩ := HV.out
        refine this.trans ?_
        simp [V.cells, v1, v2, v3, v4]
        rfl
      · have HT : Hid (authWho (L hh) ((L s).take a.toNat) = o) := by rw [← H1.out]; simp [authTail, HQ.out, han, Hid]
        clear H1 HQ
        go_wp2_with fail
        obtain ⟨who, Hw⟩ : ∃ who, Hid (s.extract 0 a.toNat = who) := ⟨_, rfl⟩
        have hw : (L s).take a.toNat = L who := by rw [← Hw.out, U.ext_to, U.L_S]
        have hws : who.size ≤ s.size := by rw [← U.len_L, ← hw, ← U.len_L]; simp; omega
        have hSw : Sm who := by unfold Sm at *; omega
        have HT2 := HT.out
        rw [hw] at HT2
        have HT2 := Lib.hid HT2
        clear HT hw
        have hwz : min a.toNat s.size = who.size := by rw [← Hw.out, ByteArray.size_extract]; omega
        rw [Hw.out, hwz]
        clear Hw hwz
        have G3 : Hid (IsV (w2.setCell ⟨g, 6, none⟩ (.string hh)) g { v with host := hh }) := Lib.hid (heap_set (o := 6) G2.out (.string hh))
        have O3 : Hid (Only g w (w2.setCell ⟨g, 6, none⟩ (.string hh))) := Lib.hid (O2.out.setCell _ _)
        obtain ⟨W, HW⟩ : ∃ W, Hid (w2.setCell ⟨g, 6, none⟩ (.string hh) = W) := ⟨_, rfl⟩
        rw [HW.out] at G3 O3 ⊢
        clear HW c6 f6 G2 O2 HG
        go_loopw [71] (fun c wr => ∃ (k n : Nat), k ≤ who.size ∧ c = .int .i64 k ∧ wr = W.drewN n ∧ Hid (((L who).take k).all U.user1 = true)) (fun c _ => who.size - (intOf c).toNat)
        case atStart => exact ⟨0, 0, Nat.zero_le _, rfl, rfl, rfl⟩
        case round =>
          obtain ⟨k, nn, hk, rfl, rfl, HK⟩ := hrel
          by_cases hlt : k < who.size
          · obtain ⟨l1, HL1⟩ : ∃ l1, Hid (U.letter (who[k]'hlt) = l1) := ⟨_, rfl⟩
            obtain ⟨l2, HL2⟩ : ∃ l1, Hid (U.digit (who[k]'hlt) = l1) := ⟨_, rfl⟩
            obtain ⟨l3, HL3⟩ : ∃ l1, Hid (U.among (who[k]'hlt) (L ⟨#[45, 46, 95, 58, 126, 33, 36, 38, 39, 40, 41, 42, 43, 44, 59, 61, 37, 64]⟩) = l1) := ⟨_, rfl⟩
            have HU : Hid (U.user1 (who[k]'hlt) = (l1 || l2 || l3)) := by rw [← HL1.out, ← HL2.out, ← HL3.out]; rfl
            go_wp2_with fail
            refine (c_letter (who[k]'hlt) _ l1 _ rfl HL1).mono ?_
            rintro e w1 ⟨rfl, ⟨n7, rfl⟩⟩
            cases l1
            case true =>
              go_wp2_with fail
              go_roundw
              case rel => exact ⟨k + 1, _, by omega, by go_num, rfl, all_take_step hlt HK.out HU.out⟩
              case measure => simp [intOf]; omega
            go_wp2_with fail
            refine (c_digit (who[k]'hlt) _ l2 _ rfl HL2).mono ?_
            rintro e w1 ⟨rfl, ⟨n8, rfl⟩⟩
            cases l2
            case true =>
              go_wp2_with fail
              go_roundw
              case rel => exact ⟨k + 1, _, by omega, by go_num, rfl, all_take_step hlt HK.out HU.out⟩
              case measure => simp [intOf]; omega
            go_wp2_with fail
            refine (c_among ⟨#[45, 46, 95, 58, 126, 33, 36, 38, 39, 40, 41, 42, 43, 44, 59, 61, 37, 64]⟩ (who[k]'hlt) _ l3 _ (by decide) rfl HL3).mono ?_
            rintro e w1 ⟨rfl, ⟨n9, rfl⟩⟩
            cases l3
            case true =>
              go_wp2_with fail
              go_roundw
              case rel => exact ⟨k + 1, _, by omega, by go_num, rfl, all_take_step hlt HK.out HU.out⟩
              case measure => simp [intOf]; omega
            go_wp2_with fail
            go_ret2
            exact post_no (by rw [← HT2.out]; simp [authWho, all_not hlt HU.out]) (O3.out.drewN _) (G3.out.drewN _)
          · obtain rfl : k = who.size := by omega
            have HK' : Hid ((L who).all U.user1 = true) := by
              have := HK.out
              rw [List.take_of_length_le (by rw [U.len_L]; exact Nat.le_refl _)] at this
              exact this
            clear HK hlt
            obtain ⟨na, HN⟩ : ∃ na, (U.cut 58 (L who)).1 = L na := ⟨S _, rfl⟩
            obtain ⟨pa, HPA⟩ : ∃ pa, (U.cut 58 (L who)).2.1 = L pa := ⟨S _, rfl⟩
            obtain ⟨both, HBO⟩ : ∃ both, (U.cut 58 (L who)).2.2 = both := ⟨_, rfl⟩
            have HC2 : Hid (U.cut 58 (L who) = (L na, L pa, both)) := by rw [← HN, ← HPA, ← HBO]; rfl
            have hns : Sm na := by have := U.cut_len1 58 (L who); rw [HN, U.len_L, U.len_L] at this; unfold Sm at *; omega
            have hps : Sm pa := by have := U.cut_len2 58 (L who); rw [HPA, U.len_L, U.len_L] at this; unfold Sm at *; omega
            clear HN HPA HBO
            obtain ⟨r1, HR1⟩ : ∃ r, Hid ((U.unesc 1 (L na)).getD [] = L r) := ⟨S _, rfl⟩
            obtain ⟨r2, HR2⟩ : ∃ r, Hid ((U.unesc 1 (L pa)).getD [] = L r) := ⟨S _, rfl⟩
            obtain ⟨e1, HE1⟩ : ∃ r, Hid ((U.unesc 1 (L na)).isSome = r) := ⟨_, rfl⟩
            obtain ⟨e2, HE2⟩ : ∃ r, Hid ((U.unesc 1 (L pa)).isSome = r) := ⟨_, rfl⟩
            go_wp2_with fail
            refine (c_cut who na pa 58 58 both _ hSw rfl HC2).mono ?_
            rintro e w1 ⟨rfl, ⟨n10, rfl⟩⟩
            go_wp2_with fail
            refine (c_Unescape_any na r1 e1 1 1 _ hns rfl HR1 HE1).mono ?_
            rintro e w4 ⟨rfl, b4⟩
            go_wp2_with fail
            refine (c_Unescape_any pa r2 e2 1 1 _ hps rfl HR2 HE2).mono ?_
            rintro e w5 ⟨rfl, b5⟩
            have g5 := ((G3.out.drewN _).keep b4).keep b5
            have o5 := ((O3.out.drewN _).then_ b4).then_ b5
            have c2 := cell_at (o := 2) g5 rfl
            have c3 := cell_at (o := 3) g5 rfl
            have c4 := cell_at (o := 4) g5 rfl
            have c5 := cell_at (o := 5) g5 rfl
            have f2 := fun o => free_at (o := o) g5
            have G5 := Lib.hid g5
            have O5 := Lib.hid o5
            clear b4 b5 g5 o5 G3 O3
            cases e1 <;> cases e2
            all_goals go_wp2_with fail
            all_goals go_ret2
            · exact post_no (by rw [← HT2.out]; exact who_no HC2.out (.inl HE1.out)) ((((O5.out.setCell _ _).setCell _ _).setCell _ _).setCell _ _) (setUser G5.out r1 r2 both)
            · exact post_no (by rw [← HT2.out]; exact who_no HC2.out (.inl HE1.out)) ((((O5.out.setCell _ _).setCell _ _).setCell _ _).setCell _ _) (setUser G5.out r1 r2 both)
            · exact post_no (by rw [← HT2.out]; exact who_no HC2.out (.inr HE2.out)) ((((O5.out.setCell _ _).setCell _ _).setCell _ _).setCell _ _) (setUser G5.out r1 r2 both)
            · have ho : o = some (some (L hh, some (L r1, L r2, both))) := by rw [← HT2.out]; exact who_ok HK'.out HC2.out HR1.out HE1.out HR2.out HE2.out
              subst ho
              exact ⟨(((O5.out.setCell _ _).setCell _ _).setCell _ _).setCell _ _, rfl, setUser G5.out r1 r2 both⟩
end Go.Proofs.YtphkohpphdcjhaaGreatDoor
namespace Go.Proofs.YtphkohpphdcjhaaGreatDoor
open Go.RowKit Go.Proofs.YtphkohpphdcjhaaGreatDoorW.PrintWords
open U (L S)

theorem wpl_loadV {ops : Array Oper} {rest : List Oper} {o : Oper} {a : Act} {w : World} {Q : Exit → Act → World → Prop} (hgd : o.guard = none) (p : Operand) (ho : o.op = .load 23 p)
    (g : Nat) (v : V) (hx : a.eval p = .pointer (some ⟨g, 0, none⟩)) (hI : IsV w g v) (h : wpList Tryz.prog ops Q rest (a.put o.dst v.val) w) : wpList Tryz.prog ops Q (o :: rest) a w :=
  wpList_load_row hgd 23 p ho g hx 23 v.cells (0, 0) _ hI Tryz.underlying23 rfl (by kernel_rfl) h
theorem setRow_only {w : World} {g : Nat} (cs : Array Value) : Only g w (w.setRow g cs) :=
  ⟨rfl, rfl, rfl, Nat.le_of_eq (by simp), fun k _ hk => setRow_other w g k cs hk⟩
theorem wpl_storeV {ops : Array Oper} {rest : List Oper} {o : Oper} {a : Act} {w : World} {Q : Exit → Act → World → Prop} (hgd : o.guard = none) (p x : Operand) (ho : o.op = .store 23 p x)
    (g : Nat) (v0 v : V) (hx : a.eval p = .pointer (some ⟨g, 0, none⟩)) (hy : a.eval x = v.val) (hI : IsV w g v0)
    (h : ∀ w', IsV w' g v → Only g w w' → wpList Tryz.prog ops Q rest (a.put o.dst undef) w') : wpList Tryz.prog ops Q (o :: rest) a w := by
  refine wpList_store_row hgd 23 p x ho g v.cells hx hy 23 v0.cells hI (by kernel_rfl) rfl (by simp [V.cells, Value.oneCell']) (h _ ?_ (setRow_only _))
  exact setRow_heap w g _ _ 23 (0, 0) hI
/-- A struct, and two more results, handed back. -/
theorem ret_V2 {fn : Func} {R : Ending → World → Prop} {p q r : Tmp} (hf : fn.results = #[.cell p 23, .tmp q, .tmp r]) {a : Act} {w : World} (g : Nat) (v : V) (x y : Value)
    (hp : a.tmps.getD p undef = .pointer (some ⟨g, 0, none⟩)) (hq : a.tmps.getD q undef = x) (hr : a.tmps.getD r undef = y) (hd : a.defers = []) (hI : IsV w g v)
    (h : R (.returned (.tuple #[v.val, x, y])) w) : bodyPost Tryz.prog fn R .ret a w := by
  have hp' : a.tmps[p]?.getD undef = .pointer (some ⟨g, 0, none⟩) := by simpa using hp
  have hq' : a.tmps[q]?.getD undef = x := by simpa using hq
  have hr' : a.tmps[r]?.getD undef = y := by simpa using hr
  have hl := run_loadVar_row (P := Tryz.prog) w g 23 23 v.cells (0, 0) _ hI Tryz.underlying23 rfl (by kernel_rfl)
  refine bodyPost_ret (v := .tuple #[v.val, x, y]) ?_ hd h
  simp [results, hf, hp', hq', hr', asAddr, hl]
end Go.Proofs.YtphkohpphdcjhaaGreatDoor
