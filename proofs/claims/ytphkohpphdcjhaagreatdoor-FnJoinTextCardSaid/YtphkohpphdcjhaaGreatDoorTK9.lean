/- Hosts, users, authorities of the package. -/
import Derived.Test.YtphkohpphdcjhaaGreatDoorTK8
import Derived.Test.YtphkohpphdcjhaaGreatDoorTK1
namespace Go.Proofs.YtphkohpphdcjhaaGreatDoor
open Go.RowKit Go.Proofs.YtphkohpphdcjhaaGreatDoorW.PrintWords
open U (L S)

theorem lastIdx_is (s : ByteArray) (c : UInt8) : ∀ k : Nat, k ≤ s.size → Lib.lastIdx s (c.toNat : Int) k = U.lastI c ((L s).take k)
  | 0, _ => rfl
  | k + 1, h => by
    have ih := lastIdx_is s c k (by omega)
    have e : (s.data[k]!) = s[k]'(by omega) := by
      rw [getElem!_pos s.data k (show k < s.data.size from Nat.lt_of_succ_le h)]
      rfl
    rw [U.take_at _ _ (by rw [U.len_L]; exact h), U.lastI_snoc, Lib.lastIdx, e, ih]
    show (if ((s[k]'(by omega)).toNat : Int) = (c.toNat : Int) then (k : Int) else _) = if s[k]'(by omega) = c then _ else _
    rw [List.length_take, U.len_L, Nat.min_eq_left (by omega)]
    by_cases hc : s[k]'(by omega) = c
    · rw [if_pos hc, if_pos (by rw [hc])]
    · rw [if_neg hc, if_neg (fun e => hc (byte_eq.1 e))]
/-- strings.LastIndex at one byte. -/
theorem i_last (s sub : ByteArray) (c : UInt8) (r : Int) (w : World) (hs : Sm s) (hsub : sub = one c) (H : Hid (U.lastI c (L s) = r)) :
    Calls Tryz.prog 104 #[.string s, .string sub] w fun e w' => e = .returned (.int .i64 r) ∧ w = w' := by
  subst hsub
  refine (Tryz.strings_LastIndex_one s (one c) rfl (by have : s.size ≤ 1000000000 := hs; omega) w).mono ?_
  rintro e w' ⟨rfl, rfl⟩
  refine ⟨?_, rfl⟩
  have : Lib.lastIndexByte s (c.toNat : Int) = r := by
    unfold Lib.lastIndexByte
    rw [lastIdx_is s c _ (Nat.le_refl _), List.take_of_length_le (by rw [U.len_L]; exact Nat.le_refl _), H.out]
  rw [← this]
  rfl
theorem i_prefix (s p : ByteArray) (b : Bool) (w : World) (H : Hid (decide ((L s).take p.size = L p) = b)) :
    Calls Tryz.prog 75 #[.string s, .string p] w fun e w' => e = .returned (.bool b) ∧ w = w' := by
  refine (Tryz.strings_HasPrefix s p w).mono ?_
  rintro e w' ⟨rfl, rfl⟩
  refine ⟨?_, rfl⟩
  rw [← H.out]
  congr 2
  show (L p).isPrefixOf (L s) = _
  rw [Bool.eq_iff_iff, List.isPrefixOf_iff_prefix, decide_eq_true_eq, List.prefix_iff_eq_take, U.len_L]
  exact eq_comm
theorem i_suffix1 (s : ByteArray) (c : UInt8) (p : ByteArray) (b : Bool) (w : World) (hs : Sm s) (hp : p = one c) (H : Hid (decide ((L s).getLast? = some c) = b)) :
    Calls Tryz.prog 94 #[.string s, .string p] w fun e w' => e = .returned (.bool b) ∧ w = w' := by
  subst hp
  refine (Tryz.strings_HasSuffix s (one c) w (by have : s.size ≤ 1000000000 := hs; omega)).mono ?_
  rintro e w' ⟨rfl, rfl⟩
  refine ⟨?_, rfl⟩
  rw [← H.out]
  congr 2
  show ([c] : U.B).isSuffixOf (L s) = _
  rw [Bool.eq_iff_iff, List.isSuffixOf_iff_suffix, decide_eq_true_eq]
  constructor
  · rintro ⟨t, ht⟩
    rw [← ht]
    simp
  · intro h
    obtain ⟨t, ht⟩ := List.getLast?_eq_some_iff.1 h
    exact ⟨t, ht.symm⟩
theorem low_is (c : UInt8) : Lib.lowerB c = U.low1 c := by
  have h : ∀ n, n < 256 → Lib.lowerB (UInt8.ofNat n) = U.low1 (UInt8.ofNat n) := by decide +kernel
  have := h c.toNat c.toNat_lt
  rwa [show UInt8.ofNat c.toNat = c by simp] at this
theorem i_lower (s r : ByteArray) (w : World) (hs : Sm s) (ha : ∀ c ∈ L s, c.toNat < 128) (H : Hid (U.lower (L s) = L r)) :
    Calls Tryz.prog 93 #[.string s] w fun e w' => e = .returned (.string r) ∧ Below w.heap.size w w' := by
  refine (Tryz.strings_ToLower_ascii s w (by have : s.size ≤ 1000000000 := hs; omega) (fun j b h => ha b (List.mem_of_getElem? h))).mono ?_
  rintro e w' ⟨rfl, b⟩
  refine ⟨?_, b⟩
  have : Lib.toLowerA (L s) = L r := by
    rw [← H.out]
    unfold Lib.toLowerA U.lower
    exact List.map_congr_left fun c _ => low_is c
  show Ending.returned (.string (S (Lib.toLowerA (L s)))) = _
  rw [this, U.S_L]
/-- A scheme's bytes are below 128. -/
theorem sch_ascii (l : U.B) : ∀ (r : U.B) (i : Nat), l.drop i = r → (∀ c ∈ l.take i, c.toNat < 128) → ∀ c ∈ (U.sch l r i).1, c.toNat < 128
  | [], i, _, _ => by simp [U.sch]
  | x :: r, i, hr, hi => by
    have hlt : i < l.length := by
      rcases Nat.lt_or_ge i l.length with h | h
      · exact h
      · rw [List.drop_eq_nil_of_le h] at hr
        cases hr
    have hx := U.drop_at l i hlt
    rw [hr] at hx
    obtain ⟨hx1, hx2⟩ := List.cons.inj hx
    have next : x.toNat < 128 → ∀ c ∈ (U.sch l r (i + 1)).1, c.toNat < 128 := fun h => sch_ascii l r (i + 1) hx2.symm (by
      intro c hc
      rw [U.take_at l i hlt] at hc
      rcases List.mem_append.1 hc with hc | hc
      · exact hi c hc
      · rw [List.mem_singleton.1 hc, ← hx1]
        exact h)
    unfold U.sch
    split
    · rename_i h
      refine next ?_
      simp only [U.letter, Bool.or_eq_true, Bool.and_eq_true, decide_eq_true_eq] at h
      omega
    · split
      · rename_i h
        split
        · simp
        · refine next ?_
          simp only [U.digit, U.among, List.any_cons, List.any_nil, Bool.or_eq_true, Bool.and_eq_true, decide_eq_true_eq, beq_iff_eq, Bool.or_false] at h
          rcases h with h | h | h | h
          · omega
          · rw [← h]; decide
          · rw [← h]; decide
          · rw [← h]; decide
      · split
        · exact hi
        · simp
theorem scheme_ascii (l : U.B) : ∀ c ∈ (U.scheme l).1, c.toNat < 128 := sch_ascii l l 0 rfl (by simp)

/-! ### Hosts -/
theorem lastI_no (c : UInt8) : ∀ l : U.B, U.among c l = false → U.lastI c l = -1
  | [], _ => rfl
  | x :: r, h => by
    simp only [U.among, List.any_cons, Bool.or_eq_false_iff, beq_eq_false_iff_ne] at h
    have ih := lastI_no c r h.2
    unfold U.lastI
    rw [ih, if_neg (by decide), if_neg h.1]
theorem lastI_app (c : UInt8) (r : U.B) : ∀ l : U.B, U.lastI c (l ++ r) = if 0 ≤ U.lastI c r then l.length + U.lastI c r else U.lastI c l
  | [] => by
    have := U.lastI_ge c r
    simp only [List.nil_append, List.length_nil, U.lastI]
    split <;> omega
  | x :: l => by
    have ih := lastI_app c r l
    show (if 0 ≤ U.lastI c (l ++ r) then U.lastI c (l ++ r) + 1 else if x = c then 0 else -1) = _
    rw [ih]
    by_cases h : 0 ≤ U.lastI c r
    · simp only [if_pos h, List.length_cons]
      rw [if_pos (by omega)]
      omega
    · simp only [if_neg h]
      rfl
theorem idx_cut (c : UInt8) (l : U.B) : (U.cut c l).1.length = U.idx c l := by
  have := U.idx_le c l
  simp only [U.cut, List.length_take]
  omega
theorem lastI_only (c : UInt8) (l : U.B) (h : (U.cut c l).2.2 = true) (hn : U.among c (U.cut c l).2.1 = false) : U.lastI c l = U.idx c l := by
  conv => lhs; rw [U.cut_found c l h]
  have h1 : U.lastI c (c :: (U.cut c l).2.1) = 0 := by
    unfold U.lastI
    rw [lastI_no c _ hn, if_neg (by decide), if_pos rfl]
  rw [lastI_app, h1, if_pos (by decide), idx_cut]
  omega
theorem drop_idx (c : UInt8) (l : U.B) (h : (U.cut c l).2.2 = true) : l.drop (U.idx c l) = c :: (U.cut c l).2.1 := by
  have e := U.cut_found c l h
  rw [← idx_cut]
  generalize (U.cut c l).1 = a at e ⊢
  generalize (U.cut c l).2.1 = b at e ⊢
  rw [e, List.drop_left]

/-- The host of an authority: not told, refused, or read. -/
def hostOf (l : U.B) : Option (Option U.B) :=
  if U.among 91 l || U.among 93 l then none
  else if (U.cut 58 l).2.2 && U.among 58 (U.cut 58 l).2.1 then none
  else if (U.cut 58 l).2.2 && !U.port (58 :: (U.cut 58 l).2.1) then some none
  else some (U.unesc 2 l)

set_option maxRecDepth 100000 in
set_option maxHeartbeats 3200000 in
theorem i_parseHost (sc s : ByteArray) (o : Option U.B) (W : World) (hs : Sm s) (hT : Tab W) (hO : hostOf (L s) = some o) :
    Calls Tryz.prog 110 #[.string sc, .string s] W (UnPost W o) := by
  unfold hostOf at hO
  have h91 : U.among 91 (L s) = false := by
    cases h : U.among 91 (L s)
    · rfl
    · rw [h] at hO
      exact absurd hO (by simp)
  have HL1 : Hid (U.lastI 91 (L s) = -1) := Lib.hid (lastI_no 91 _ h91)
  rw [h91, Bool.false_or] at hO
  have h93 : U.among 93 (L s) = false := by
    cases h : U.among 93 (L s)
    · rfl
    · rw [h] at hO
      exact absurd hO (by simp)
  rw [h93, if_neg (by decide)] at hO
  have hcu := i_un_host s W hs hT
  obtain ⟨q, HQ⟩ : ∃ o, Hid (U.unesc 2 (L s) = o) := ⟨_, rfl⟩
  rw [HQ.out] at hcu hO
  cases hc : (U.cut 58 (L s)).2.2
  · rw [hc] at hO
    simp only [Bool.false_and, Bool.false_eq_true, if_false, Option.some.injEq] at hO
    subst hO
    have HC := Lib.hid hc
    have CU := Lib.hid hcu
    clear hcu hc h91 h93 hT
    go_enter Tryz.func110, Tryz.ntmps110
    go_wp2_with fail
    refine (i_last s _ 91 (-1) _ hs rfl HL1).mono ?_
    rintro e w1 ⟨rfl, rfl⟩
    go_wp2_with fail
    refine (i_index_no s _ 58 _ hs rfl HC).mono ?_
    rintro e w1 ⟨rfl, rfl⟩
    go_wp2_with fail
    refine CU.out.mono ?_
    cases q with
    | none =>
      rintro e w1 ⟨b1, x, ⟨t, y, rfl⟩, rfl⟩
      go_wp2_with fail
      go_ret2
      exact ⟨b1, _, ⟨t, y, rfl⟩, rfl⟩
    | some l =>
      rintro e w1 ⟨b1, rfl⟩
      go_wp2_with fail
      go_ret2
      exact ⟨b1, rfl⟩
  · rw [hc, Bool.true_and, Bool.true_and] at hO
    have hm : U.among 58 (U.cut 58 (L s)).2.1 = false := by
      cases h : U.among 58 (U.cut 58 (L s)).2.1
      · rfl
      · rw [h] at hO
        exact absurd hO (by simp)
    rw [hm, if_neg (by decide)] at hO
    have hl := lastI_only 58 _ hc hm
    have hd := drop_idx 58 _ hc
    obtain ⟨n, hn⟩ : ∃ n, U.idx 58 (L s) = n := ⟨_, rfl⟩
    have hlt : n < s.size := by
      have := of_decide_eq_true hc
      rwa [hn, U.len_L] at this
    rw [hn] at hl hd
    obtain ⟨cp, HCP⟩ : ∃ cp, Hid (s.extract n s.size = cp) := ⟨_, rfl⟩
    have hcp : L cp = 58 :: (U.cut 58 (L s)).2.1 := by rw [← HCP.out, U.ext_from, U.L_S, hd]
    rw [← hcp] at hO
    obtain ⟨pb, HP⟩ : ∃ pb, Hid (U.port (L cp) = pb) := ⟨_, rfl⟩
    rw [HP.out] at hO
    have HC := Lib.hid hc
    have HL2 : Hid (U.lastI 58 (L s) = (n : Int)) := hl
    have HN : Hid ((n : Int) = (U.idx 58 (L s) : Int)) := by rw [hn]; exact Lib.hid rfl
    have CU := Lib.hid hcu
    have HO := Lib.hid hO
    have hne : ((n : Int) != -1) = true := by rw [bne_iff_ne]; omega
    clear hcu hc h91 h93 hl hd hn hcp hO hm
    have HT := Lib.hid hT
    clear hT
    go_enter Tryz.func110, Tryz.ntmps110
    go_wp2_with fail
    refine (i_last s _ 91 (-1) _ hs rfl HL1).mono ?_
    rintro e w1 ⟨rfl, rfl⟩
    go_wp2_with fail
    refine (i_index_yes s _ 58 n _ hs rfl HC HN.out).mono ?_
    rintro e w1 ⟨rfl, rfl⟩
    go_wp2_with fail
    refine (i_last s _ 58 n _ hs rfl HL2).mono ?_
    rintro e w1 ⟨rfl, rfl⟩
    go_wp2_with fail
    rw [HCP.out]
    refine (i_port cp _ pb HP).mono ?_
    rintro e w1 ⟨rfl, b1⟩
    cases pb
    · have ho : o = none := by have := HO.out; simpa using this.symm
      subst ho
      have B1 := Lib.hid b1
      clear b1
      go_wp2_with fail
      refine (i_errNew _ _).mono ?_
      rintro e w2 ⟨rfl, b2⟩
      go_wp2_with fail
      go_ret2
      exact ⟨B1.out.trans (b2.mono B1.out.size), _, ⟨_, _, rfl⟩, rfl⟩
    · have ho : o = q := by have := HO.out; simpa using this.symm
      subst ho
      have hcu := i_un_host s w1 hs (HT.out.below b1)
      rw [HQ.out] at hcu
      have CU := Lib.hid hcu
      have B1 := Lib.hid b1
      clear b1 hcu
      go_wp2_with fail
      refine CU.out.mono ?_
      cases o with
      | none =>
        rintro e w1 ⟨b1, x, ⟨t, y, rfl⟩, rfl⟩
        go_wp2_with fail
        go_ret2
        exact ⟨B1.out.trans (b1.mono B1.out.size), _, ⟨t, y, rfl⟩, rfl⟩
      | some l =>
        rintro e w1 ⟨b1, rfl⟩
        go_wp2_with fail
        go_ret2
        exact ⟨B1.out.trans (b1.mono B1.out.size), rfl⟩
end Go.Proofs.YtphkohpphdcjhaaGreatDoor
namespace Go.Proofs.YtphkohpphdcjhaaGreatDoor
open Go.RowKit Go.Proofs.YtphkohpphdcjhaaGreatDoorW.PrintWords
open U (L S)

/-- A new user. -/
def UserPost (W : World) (a b : ByteArray) (f : Bool) (e : Ending) (w' : World) : Prop :=
  Below W.heap.size W w' ∧ ∃ k, e = .returned (.pointer (some ⟨k, 0, none⟩)) ∧ W.heap.size ≤ k ∧ w'.heap[k]? = some (.cells #[.string a, .string b, .bool f] 107 (0, 0))
set_option maxHeartbeats 400000 in
theorem i_User (a : ByteArray) (W : World) : Calls Tryz.prog 71 #[.string a] W (UserPost W a E false) := by
  go_enter Tryz.func71, Tryz.ntmps71
  go_wp2_with fail
  go_ret
  exact ⟨(Below.refl _ _).alloc (Nat.le_refl _) _, _, rfl, Nat.le_refl _, heap_new _ _ _ rfl⟩
set_option maxHeartbeats 400000 in
theorem i_UserPassword (a b : ByteArray) (W : World) : Calls Tryz.prog 70 #[.string a, .string b] W (UserPost W a b true) := by
  go_enter Tryz.func70, Tryz.ntmps70
  go_wp2_with fail
  go_ret
  exact ⟨(Below.refl _ _).alloc (Nat.le_refl _) _, _, rfl, Nat.le_refl _, heap_new _ _ _ rfl⟩

theorem authority_host (l : U.B) : U.authority l = match hostOf (l.drop (U.lastI 64 l + 1).toNat) with
    | none => none
    | some none => some none
    | some (some h) => if U.lastI 64 l < 0 then some (some (h, none)) else authWho h (l.take (U.lastI 64 l).toNat) := by
  rw [authIn_eq]
  unfold authIn hostOf authTail
  generalize l.drop (U.lastI 64 l + 1).toNat = h
  split
  · rfl
  · split
    · rfl
    · split
      · rfl
      · cases U.unesc 2 h <;> rfl
/-- What parseAuthority hands back. -/
def AuthP (W : World) (o : Option (U.B × Option (U.B × U.B × Bool))) (e : Ending) (w' : World) : Prop :=
  Below W.heap.size W w' ∧ match o with
  | none => ∃ x, IsErr x ∧ e = .returned (.tuple #[.pointer none, .string E, x])
  | some (h, none) => e = .returned (.tuple #[.pointer none, .string (S h), .nilIface])
  | some (h, some (n, p, f)) => ∃ k, e = .returned (.tuple #[.pointer (some ⟨k, 0, none⟩), .string (S h), .nilIface]) ∧ W.heap.size ≤ k ∧ w'.heap[k]? = some (.cells #[.string (S n), .string (S p), .bool f] 107 (0, 0))
theorem authP_no {W w' : World} {x : Value} (hx : IsErr x) (h : Below W.heap.size W w') : AuthP W none (.returned (.tuple #[.pointer none, .string E, x])) w' := ⟨h, x, hx, rfl⟩

/-- A user out of a name and a password. -/
def whoOf (h : U.B) (both : Bool) (n p : Option U.B) : Option (Option (U.B × Option (U.B × U.B × Bool))) :=
  match n, p with
  | some n, some p => some (some (h, some (n, p, both)))
  | _, _ => some none
theorem authWho_of (h who : U.B) (e : who.all U.user1 = true) : authWho h who = whoOf h (U.cut 58 who).2.2 (U.unesc 1 (U.cut 58 who).1) (U.unesc 1 (U.cut 58 who).2.1) := by
  unfold authWho whoOf
  rw [e]
  rfl

set_option maxRecDepth 100000 in
set_option maxHeartbeats 8000000 in
theorem i_parseAuthority (sc s : ByteArray) (o : Option (U.B × Option (U.B × U.B × Bool))) (W : World) (hs : Sm s) (hT : Tab W) (hO : U.authority (L s) = some o) :
    Calls Tryz.prog 97 #[.string sc, .string s] W (AuthP W o) := by
  rw [authority_host] at hO
  have a0 := U.lastI_ge 64 (L s)
  have a1 := U.lastI_lt 64 (L s)
  rw [U.len_L] at a1
  obtain ⟨a, HA⟩ : ∃ a, Hid (U.lastI 64 (L s) = a) := ⟨_, rfl⟩
  rw [HA.out] at a0 a1 hO
  have HT := Lib.hid hT
  clear hT
  by_cases han : a < 0
  · have ha : a = -1 := by omega
    subst ha
    rw [show ((-1 : Int) + 1).toNat = 0 from rfl, List.drop_zero] at hO
    cases hh : hostOf (L s) with
    | none => rw [hh] at hO; exact absurd hO (by simp)
    | some q =>
      have CU := Lib.hid (i_parseHost sc s q W hs HT.out hh)
      rw [hh] at hO
      clear hh a0 a1 han
      have HO := Lib.hid hO
      clear hO
      go_enter Tryz.func97, Tryz.ntmps97
      go_wp2_with fail
      refine (i_last s _ 64 (-1) _ hs rfl HA).mono ?_
      rintro e w1 ⟨rfl, rfl⟩
      go_wp2_with fail
      refine CU.out.mono ?_
      cases q with
      | none =>
        rintro e w1 ⟨b1, x, ⟨t, y, rfl⟩, rfl⟩
        have ho : o = none := by have := HO.out; simpa using this.symm
        subst ho
        go_wp2_with fail
        go_ret3
        exact authP_no ⟨t, y, rfl⟩ b1
      | some l =>
        rintro e w1 ⟨b1, rfl⟩
        have ho : o = some (l, none) := by have := HO.out; simpa using this.symm
        subst ho
        go_wp2_with fail
        go_ret3
        exact ⟨b1, rfl⟩
  · obtain ⟨h, Hh⟩ : ∃ h, Hid (s.extract (a + 1).toNat s.size = h) := ⟨_, rfl⟩
    have hL : (L s).drop (a + 1).toNat = L h := by rw [← Hh.out, U.ext_from, U.L_S]
    have hhs : h.size ≤ s.size := by rw [← U.len_L, ← hL, ← U.len_L]; simp
    have hSh : Sm h := by unfold Sm at *; omega
    rw [hL] at hO
    obtain ⟨who, Hw⟩ : ∃ who, Hid (s.extract 0 a.toNat = who) := ⟨_, rfl⟩
    have hw : (L s).take a.toNat = L who := by rw [← Hw.out, U.ext_to, U.L_S]
    have hws : who.size ≤ s.size := by rw [← U.len_L, ← hw, ← U.len_L]; simp; omega
    have hSw : Sm who := by unfold Sm at *; omega
    rw [hw] at hO
    clear hL hw
    cases hh : hostOf (L h) with
    | none => rw [hh] at hO; exact absurd hO (by simp)
    | some q =>
      have CU := Lib.hid (i_parseHost sc h q W hSh HT.out hh)
      rw [hh] at hO
      have HO := Lib.hid hO
      clear hh hO hhs hws
      go_enter Tryz.func97, Tryz.ntmps97
      go_wp2_with fail
      refine (i_last s _ 64 a _ hs rfl HA).mono ?_
      rintro e w1 ⟨rfl, rfl⟩
      go_wp2_with fail
      rw [Hh.out]
      refine CU.out.mono ?_
      cases q with
      | none =>
        rintro e w1 ⟨b1, x, ⟨t, y, rfl⟩, rfl⟩
        have ho : o = none := by have := HO.out; simpa using this.symm
        subst ho
        go_wp2_with fail
        go_ret3
        exact authP_no ⟨t, y, rfl⟩ b1
      | some l =>
        rintro e w1 ⟨b1, rfl⟩
        have HX : Hid (authWho l (L who) = some o) := by
          have := HO.out
          simp only at this
          rw [if_neg (by omega)] at this
          exact Lib.hid this
        have B1 := Lib.hid b1
        have HT1 := Lib.hid (HT.out.below b1)
        clear HO CU Hh b1
        obtain ⟨P, HP⟩ : ∃ P, Hid ((L who).all U.user1 = P) := ⟨_, rfl⟩
        go_wp2_with fail
        rw [Hw.out]
        refine (i_validUser who P _ HP).mono ?_
        rintro e w2 ⟨rfl, b2⟩
        have B2 : Hid (Below W.heap.size W w2) := Lib.hid (B1.out.trans (b2.mono B1.out.size))
        have HT2 := Lib.hid (HT1.out.below b2)
        clear b2 HT1 B1 Hw
        cases P with
        | false =>
          have ho : o = none := by
            have := HX.out
            unfold authWho at this
            rw [HP.out] at this
            simpa using this.symm
          subst ho
          go_wp2_with fail
          refine (i_errNew _ _).mono ?_
          rintro e w3 ⟨rfl, b3⟩
          go_wp2_with fail
          go_ret3
          exact authP_no ⟨_, _, rfl⟩ (B2.out.trans (b3.mono B2.out.size))
        | true =>
          obtain ⟨na, HN⟩ : ∃ na, (U.cut 58 (L who)).1 = L na := ⟨S _, rfl⟩
          obtain ⟨pa, HPA⟩ : ∃ pa, (U.cut 58 (L who)).2.1 = L pa := ⟨S _, rfl⟩
          obtain ⟨both, HBO⟩ : ∃ both, (U.cut 58 (L who)).2.2 = both := ⟨_, rfl⟩
          have HC2 : Hid (U.cut 58 (L who) = (L na, L pa, both)) := by rw [← HN, ← HPA, ← HBO]; rfl
          have hns : Sm na := by have := U.cut_len1 58 (L who); rw [HN, U.len_L, U.len_L] at this; unfold Sm at *; omega
          have hps : Sm pa := by have := U.cut_len2 58 (L who); rw [HPA, U.len_L, U.len_L] at this; unfold Sm at *; omega
          have HAM : Hid (U.among 58 (L who) = both) := by rw [among_idx]; exact Lib.hid HBO
          obtain ⟨q1, HQ1⟩ : ∃ q, Hid (U.unesc 1 (L na) = q) := ⟨_, rfl⟩
          obtain ⟨q2, HQ2⟩ : ∃ q, Hid (U.unesc 1 (L pa) = q) := ⟨_, rfl⟩
          have HX3 : Hid (whoOf l both q1 q2 = some o) := by
            have := HX.out
            rw [authWho_of _ _ HP.out, HN, HPA, HBO, HQ1.out, HQ2.out] at this
            exact Lib.hid this
          clear HX HP
          cases both
          · obtain ⟨e1, e2⟩ := U.cut_none 58 (L who) HBO
            have e3 : na = who := U.L_inj (by rw [← HN, e1])
            have e4 : q2 = some [] := by rw [← HQ2.out, ← HPA, e2]; rfl
            subst e3 e4
            have cu := i_un_user na w2 hSw HT2.out
            rw [HQ1.out] at cu
            have CU := Lib.hid cu
            clear e1 e2 HN HPA HBO HC2 HQ1 HQ2 cu
            go_wp2_with fail
            refine (i_contains na _ 58 false _ hSw rfl HAM).mono ?_
            rintro e w3 ⟨rfl, rfl⟩
            go_wp2_with fail
            refine CU.out.mono ?_
            cases q1 with
            | none =>
              rintro e w3 ⟨b3, x, ⟨t, y, rfl⟩, rfl⟩
              have ho : o = none := by have := HX3.out; simpa [whoOf] using this.symm
              subst ho
              go_wp2_with fail
              go_ret3
              exact authP_no ⟨t, y, rfl⟩ (B2.out.trans (b3.mono B2.out.size))
            | some n =>
              rintro e w3 ⟨b3, rfl⟩
              have ho : o = some (l, some (n, [], false)) := by have := HX3.out; simpa [whoOf] using this.symm
              subst ho
              have B3 : Hid (Below W.heap.size W w3) := Lib.hid (B2.out.trans (b3.mono B2.out.size))
              clear b3
              go_wp2_with fail
              refine (i_User (S n) _).mono ?_
              rintro e w4 ⟨b4, k, rfl, hk, hc⟩
              have B4 : Hid (Below W.heap.size W w4) := Lib.hid (B3.out.trans (b4.mono B3.out.size))
              have HK := Lib.hid hc
              have hkw : W.heap.size ≤ k := Nat.le_trans B3.out.size hk
              clear b4 hc hk
              go_wp2_with fail
              go_ret3
              exact ⟨B4.out, k, rfl, hkw, HK.out⟩
          · clear HN HPA HBO
            go_wp2_with fail
            refine (i_contains who _ 58 true _ hSw rfl HAM).mono ?_
            rintro e w3 ⟨rfl, rfl⟩
            go_wp2_with fail
            refine (i_cut who _ na pa 58 true _ hSw rfl HC2).mono ?_
            rintro e w3 ⟨rfl, ⟨n3, rfl⟩⟩
            have cu := i_un_user na (w2.drewN n3) hns HT2.out
            rw [HQ1.out] at cu
            have CU := Lib.hid cu
            have B3 : Hid (Below W.heap.size W (w2.drewN n3)) := Lib.hid (below_n B2.out n3)
            clear cu
            go_wp2_with fail
            refine CU.out.mono ?_
            cases q1 with
            | none =>
              rintro e w3 ⟨b3, x, ⟨t, y, rfl⟩, rfl⟩
              have ho : o = none := by have := HX3.out; simpa [whoOf] using this.symm
              subst ho
              go_wp2_with fail
              go_ret3
              exact authP_no ⟨t, y, rfl⟩ (B3.out.trans (b3.mono B3.out.size))
            | some n =>
              rintro e w4 ⟨b4, rfl⟩
              have B4 : Hid (Below W.heap.size W w4) := Lib.hid (B3.out.trans (b4.mono B3.out.size))
              have cu := i_un_user pa w4 hps ((HT2.out.drewN n3).below b4)
              rw [HQ2.out] at cu
              have CU2 := Lib.hid cu
              clear cu b4 CU
              go_wp2_with fail
              refine CU2.out.mono ?_
              cases q2 with
              | none =>
                rintro e w3 ⟨b3, x, ⟨t, y, rfl⟩, rfl⟩
                have ho : o = none := by have := HX3.out; simpa [whoOf] using this.symm
                subst ho
                go_wp2_with fail
                go_ret3
                exact authP_no ⟨t, y, rfl⟩ (B4.out.trans (b3.mono B4.out.size))
              | some p =>
                rintro e w5 ⟨b5, rfl⟩
                have B5 : Hid (Below W.heap.size W w5) := Lib.hid (B4.out.trans (b5.mono B4.out.size))
                have ho : o = some (l, some (n, p, true)) := by have := HX3.out; simpa [whoOf] using this.symm
                subst ho
                clear b5
                go_wp2_with fail
                refine (i_UserPassword (S n) (S p) _).mono ?_
                rintro e w6 ⟨b6, k, rfl, hk, hc⟩
                have B6 : Hid (Below W.heap.size W w6) := Lib.hid (B5.out.trans (b6.mono B5.out.size))
                have HK := Lib.hid hc
                have hkw : W.heap.size ≤ k := Nat.le_trans B5.out.size hk
                clear b6 hc hk
                go_wp2_with fail
                go_ret3
                exact ⟨B6.out, k, rfl, hkw, HK.out⟩
end Go.Proofs.YtphkohpphdcjhaaGreatDoor
