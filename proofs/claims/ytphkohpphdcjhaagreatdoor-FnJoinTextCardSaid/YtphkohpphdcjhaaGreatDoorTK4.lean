/- The walk of the parts of the reference, no authority. -/
import Derived.Test.YtphkohpphdcjhaaGreatDoorTK3
import Derived.Deep.DeepCutAuto
namespace Go.Proofs.YtphkohpphdcjhaaGreatDoor
open Go.RowKit Go.Proofs.YtphkohpphdcjhaaGreatDoorW.PrintWords
open U (L S)

/-- What parts hands back. -/
def PartsPost (w : World) (o : Option (Option V)) (e : Ending) (w' : World) : Prop :=
  Below w.heap.size w w' ∧ match o with
  | none => ∃ v' : V, e = .returned (.tuple #[v'.val, .bool true, .bool false])
  | some none => ∃ v' : V, e = .returned (.tuple #[v'.val, .bool false, .bool true])
  | some (some v) => e = .returned (.tuple #[v.val, .bool true, .bool true])

theorem drop_L {s t : ByteArray} {k : Nat} (h : s.extract k s.size = t) : (L s).drop k = L t := by rw [← h, U.ext_from, U.L_S]

/-- A reference's parts behind the scheme. -/
def partsIn (sc re : U.B) (request : Bool) : Option (Option V) :=
  let q := U.cut 63 re
  let u := { V.zero with scheme := S (U.lower sc), forceQuery := q.2.2 && q.2.1.isEmpty, rawQuery := S q.2.1 }
  if q.1.head? ≠ some 47 then
    if U.lower sc ≠ [] then some (some { u with opq := S q.1 })
    else if request || U.among 58 (U.cut 47 q.1).1 then some none
    else U.rest u q.1 request
  else U.rest u q.1 request
theorem partsIn_eq (l : U.B) (request : Bool) : U.parts l request = if (U.scheme l).2.2 = false then some none else partsIn (U.scheme l).1 (U.scheme l).2.1 request := rfl
theorem parts_no {w w' : World} {o} (v' : V) (ho : o = some none) (h : Below w.heap.size w w') : PartsPost w o (.returned (.tuple #[v'.val, .bool false, .bool true])) w' := by
  subst ho
  exact ⟨h, v', rfl⟩
theorem parts_untold {w w' : World} {o} (v' : V) (ho : o = none) (h : Below w.heap.size w w') : PartsPost w o (.returned (.tuple #[v'.val, .bool true, .bool false])) w' := by
  subst ho
  exact ⟨h, v', rfl⟩
theorem parts_ok {w w' : World} {o} (v : V) (ho : o = some (some v)) (h : Below w.heap.size w w') : PartsPost w o (.returned (.tuple #[v.val, .bool true, .bool true])) w' := by
  subst ho
  exact ⟨h, rfl⟩

/-- The two blocks of the call: what it hands back, and what it fills. -/
structure St (w W : World) (v : V) : Prop where
  r : IsV W w.heap.size V.zero
  u : IsV W (w.heap.size + 1) v
  b : Below w.heap.size w W
theorem St.keep {w W W' : World} {v : V} (h : St w W v) (hb : Below W.heap.size W W') : St w W' v :=
  ⟨h.r.keep hb, h.u.keep hb, h.b.trans (hb.mono h.b.size)⟩
theorem St.drewN {w W : World} {v : V} (h : St w W v) (n : Nat) : St w (W.drewN n) v := ⟨h.r, h.u, below_n h.b n⟩
theorem IsV.other {W : World} {g k o : Nat} {v : V} (h : IsV W g v) (hk : g ≠ k) (x : Value) : IsV (W.setCell ⟨k, o, none⟩ x) g v :=
  (Below.heap_setCell _ _ _ _ (by simpa using hk)).trans h
theorem St.set {w W : World} {v v' : V} (h : St w W v) (o : Nat) (x : Value) (hv : v.cells.setIfInBounds o x = v'.cells) : St w (W.setCell ⟨w.heap.size + 1, o, none⟩ x) v' :=
  ⟨h.r.other (by omega) x, (heap_set h.u x).trans (by rw [hv]), h.b.setCell (by simp) x⟩
theorem St.ret {w W W' : World} {v : V} (h : St w W v) (o : Only w.heap.size W W') : Below w.heap.size w W' := Only.below h.b o h.b.size (Nat.le_refl _)
theorem St.only {w W W' : World} {v v' : V} (h : St w W v) (ho : Only (w.heap.size + 1) W W') (hu : IsV W' (w.heap.size + 1) v') : St w W' v' :=
  ⟨(ho.block _ (heap_lt h.r) (by omega)).trans h.r, hu, Only.below h.b ho h.b.size (by omega)⟩

theorem cells_at {w : World} {g : Nat} {v : V} (h : IsV w g v) (o : Nat) : w.cell? ⟨g, o, none⟩ = v.cells[o]? := by
  unfold IsV at h
  simp only [World.cell?, h]
  rfl
/-- A text's first byte, as a walk sees it. -/
theorem head_ways (s : ByteArray) (c : UInt8) : (s.toList = [] ∧ (L s).head? ≠ some c) ∨
    ((s.toList == []) = false ∧ ∃ h : 0 < s.size, ((((s[0]'h).toNat : Int) != (c.toNat : Int)) = true ∧ (L s).head? ≠ some c) ∨ ((((s[0]'h).toNat : Int) != (c.toNat : Int)) = false ∧ (L s).head? = some c)) := by
  by_cases h : L s = []
  · exact .inl ⟨by rw [U.toList_L]; exact h, by rw [h]; simp⟩
  · refine .inr ⟨by rw [U.toList_L]; simpa using h, ?_⟩
    have hz : 0 < s.size := by
      rw [← U.len_L]
      exact List.length_pos_iff.2 h
    have e : (L s).head? = some (s[0]'hz) := by
      rw [List.head?_eq_getElem?, List.getElem?_eq_getElem (by rw [U.len_L]; exact hz)]
      rfl
    refine ⟨hz, ?_⟩
    by_cases hc : s[0]'hz = c
    · exact .inr ⟨by rw [hc]; simp, by rw [e, hc]⟩
    · exact .inl ⟨by
        rw [bne_iff_ne]
        intro e2
        exact hc (byte_eq.1 e2), by rw [e]; simpa using hc⟩

/-- What is left: the path is given. -/
def finish (v : V) (p : ByteArray) : Option (Option V) := some (if (U.setPath v p).2 then some (U.setPath v p).1 else none)
def authFin (u : V) (p : ByteArray) : Option (Option (U.B × Option (U.B × U.B × Bool))) → Option (Option V)
  | none => none
  | some none => some none
  | some (some (h, who)) => finish { u with host := S h, user := S ((who.map (·.1)).getD []), pass := S ((who.map (·.2.1)).getD []), hasUser := who.isSome, hasPass := (who.map (·.2.2)).getD false } p
def restAuth (u : V) (a : U.B) : Option (Option V) := authFin u (S (a.drop (U.cut 47 a).1.length)) (U.authority (U.cut 47 a).1)
def restBare (u : V) (r : U.B) : Option (Option V) := finish (if L u.scheme ≠ [] ∧ r ≠ [] then { u with omitHost := true } else u) (S r)
theorem rest_eq (u : V) (r : U.B) (q : Bool) : U.rest u r q = if (L u.scheme ≠ [] ∨ q = false ∧ r.take 3 ≠ [47, 47, 47]) ∧ r.take 2 = [47, 47] then restAuth u (r.drop 2) else restBare u r := by
  unfold U.rest restAuth restBare authFin finish
  split
  · cases h : U.authority (U.cut 47 (r.drop 2)).1 with
    | none => simp only [h]
    | some x => cases x <;> simp only [h]
  · rfl

/-- Whether an authority is read. -/
def isAuthF (lo fr : U.B) (rq : Bool) : Bool := decide ((lo ≠ [] ∨ rq = false ∧ fr.take 3 ≠ [47, 47, 47]) ∧ fr.take 2 = [47, 47])
def isAuth (l : U.B) (rq : Bool) : Bool := (U.scheme l).2.2 && isAuthF (U.lower (U.scheme l).1) (U.cut 63 (U.scheme l).2.1).1 rq
theorem isAuthF_head {lo fr : U.B} {rq : Bool} (h : isAuthF lo fr rq = true) : fr.head? = some 47 := by
  have h2 := (of_decide_eq_true h).2
  match fr, h2 with
  | x :: r, h2 => simp only [List.take_succ_cons, List.cons.injEq] at h2; simp [h2.1]

set_option maxRecDepth 100000 in
set_option maxHeartbeats 8000000 in
theorem parts_bare (w : World) (s : ByteArray) (rq : Bool) (hs0 : s.size ≤ 10000000) (hAu : isAuth (L s) rq = false) :
    Calls Tryz.prog 36 #[.string s, .bool rq] w (PartsPost w (U.parts (L s) rq)) := by
  have hs : Sm s := by unfold Sm; omega
  obtain ⟨o, HO⟩ : ∃ o, Hid (U.parts (L s) rq = o) := ⟨_, rfl⟩
  rw [HO.out]
  obtain ⟨sc, H1⟩ : ∃ x, (U.scheme (L s)).1 = L x := ⟨S _, rfl⟩
  obtain ⟨re, H2⟩ : ∃ x, (U.scheme (L s)).2.1 = L x := ⟨S _, rfl⟩
  obtain ⟨ok, H3⟩ : ∃ x, (U.scheme (L s)).2.2 = x := ⟨_, rfl⟩
  have HS : Hid (U.scheme (L s) = (L sc, L re, ok)) := by rw [← H1, ← H2, ← H3]; rfl
  have HZ : Hid ((ok && isAuthF (U.lower (L sc)) (U.cut 63 (L re)).1 rq) = false) := by
    rw [isAuth, HS.out] at hAu
    exact hAu
  clear H1 H2 H3 hAu
  go_enter Tryz.func36, Tryz.ntmps36
  go_wp2_with fail
  have S0 : ∀ n, St w (((w.alloc (.cells V.zero.cells 23)).alloc (.cells V.zero.cells 23)).drewN n) V.zero := fun n =>
    ⟨(Below.heap_alloc _ _ _ (by simp)).trans (heap_new _ _ _ rfl), heap_new _ _ _ (by simp), below_n (((Below.refl _ _).alloc (Nat.le_refl _) _).alloc (by simp) _) n⟩
  refine (c_scheme s sc re ok _ hs HS).mono ?_
  rintro e w1 ⟨rfl, ⟨n, rfl⟩⟩
  cases ok
  case false =>
    go_wp2_with (first | (refine wpl_loadV rfl _ rfl _ _ rfl (S0 n).u ?_) | (refine wpl_storeV rfl _ _ rfl _ _ _ rfl rfl (S0 n).r ?_; intro wR hR oR))
    refine ret_V2 Tryz.results36 _ _ _ _ rfl rfl rfl rfl hR ?_
    refine parts_no V.zero ?_ ?_
    · rw [← HO.out, partsIn_eq, HS.out]
      rfl
    · exact (S0 n).ret oR
  have HI : Hid (partsIn (L sc) (L re) rq = o) := by rw [← HO.out, partsIn_eq, HS.out]; rfl
  have hsz : sc.size ≤ s.size ∧ re.size ≤ s.size := by
    have := U.sch_len (L s) (L s) 0
    have e := HS.out
    rw [U.scheme] at e
    rw [e, U.len_L, U.len_L, U.len_L] at this
    exact this
  have hss : Sm sc := by unfold Sm; omega
  have hsr : Sm re := by unfold Sm; omega
  clear HO HS
  obtain ⟨lo, HLO⟩ : ∃ x, Hid (U.lower (L sc) = L x) := ⟨S _, rfl⟩
  obtain ⟨fr, H1⟩ : ∃ x, (U.cut 63 (L re)).1 = L x := ⟨S _, rfl⟩
  obtain ⟨qu, H2⟩ : ∃ x, (U.cut 63 (L re)).2.1 = L x := ⟨S _, rfl⟩
  obtain ⟨as_, H3⟩ : ∃ x, (U.cut 63 (L re)).2.2 = x := ⟨_, rfl⟩
  have HC : Hid (U.cut 63 (L re) = (L fr, L qu, as_)) := by rw [← H1, ← H2, ← H3]; rfl
  have hsf : Sm fr := by have := U.cut_len1 63 (L re); rw [H1, U.len_L, U.len_L] at this; unfold Sm at *; omega
  have hsq : fr.size ≤ s.size := by have := U.cut_len1 63 (L re); rw [H1, U.len_L, U.len_L] at this; omega
  have HZ2 : Hid (isAuthF (L lo) (L fr) rq = false) := by
    have := HZ.out
    rw [HLO.out, H1] at this
    exact this
  clear H1 H2 H3 HZ
  go_wp2_with fail
  refine (c_lower sc lo _ hss HLO).mono ?_
  rintro e w1 ⟨rfl, b1⟩
  have s1 := (S0 _).keep b1
  have c0 := cell_at (o := 0) s1.u rfl
  have f0 := fun o => free_at (o := o) s1.u
  have S1 := Lib.hid s1
  clear b1 s1
  go_wp2_with fail
  refine (c_cut re fr qu 63 63 as_ _ hsr rfl HC).mono ?_
  rintro e w1 ⟨rfl, ⟨n2, rfl⟩⟩
  have S2 : Hid (St w ((w1.setCell ⟨w.heap.size + 1, 0, none⟩ (.string lo)).drewN n2) { V.zero with scheme := lo }) := Lib.hid ((S1.out.set 0 (.string lo) rfl).drewN n2)
  obtain ⟨W, HW⟩ : ∃ W, Hid ((w1.setCell ⟨w.heap.size + 1, 0, none⟩ (.string lo)).drewN n2 = W) := ⟨_, rfl⟩
  rw [HW.out] at S2 ⊢
  clear HW S1 c0 f0
  obtain ⟨fq, HFQ⟩ : ∃ b, Hid ((as_ && (L qu).isEmpty) = b) := ⟨_, rfl⟩
  go_upto_region 7 with fail
  go_cut [45] (fun t wx => t = .bool fq ∧ wx = W)
  case first =>
    cases as_
    · have : fq = false := by rw [← HFQ.out]; rfl
      subst this
      go_wp2_with fail
      go_meet
      exact ⟨rfl, rfl⟩
    · by_cases hq : L qu = []
      · have : fq = true := by rw [← HFQ.out, hq]; rfl
        subst this
        have hq1 : qu.toList = [] := by rw [U.toList_L]; exact hq
        clear hq
        go_wp2_with fail
        go_meet
        exact ⟨rfl, rfl⟩
      · have : fq = false := by rw [← HFQ.out]; simpa using hq
        subst this
        have hq1 : (qu.toList == []) = false := by rw [U.toList_L]; simpa using hq
        clear hq
        go_wp2_with fail
        go_meet
        exact ⟨rfl, rfl⟩
  case rest =>
    obtain ⟨rfl, rfl⟩ := hcut
    go_upto_if 45 with fail
    go_cut [] (fun wx => St w wx { V.zero with scheme := lo, forceQuery := fq })
    case first =>
      have c10 := cell_at (o := 10) S2.out.u rfl
      have f10 := free_at (o := 10) S2.out.u
      cases fq
      · go_wp2_with fail
        go_meet
        exact S2.out
      · go_wp2_with fail
        go_meet
        exact S2.out.set 10 (.bool true) rfl
    case rest =>
      have f11 := fun o => free_at (o := o) hcut.u
      have c11 := cell_at (o := 11) hcut.u rfl
      have S3 := Lib.hid (hcut.set (v' := { V.zero with scheme := lo, forceQuery := fq, rawQuery := qu }) 11 (.string qu) rfl)
      have HT : Hid ((if (L fr).head? ≠ some 47 then
          if L lo ≠ [] then some (some { V.zero with scheme := lo, forceQuery := fq, rawQuery := qu, opq := fr })
          else if rq || U.among 58 (U.cut 47 (L fr)).1 then some none
          else U.rest { V.zero with scheme := lo, forceQuery := fq, rawQuery := qu } (L fr) rq
        else U.rest { V.zero with scheme := lo, forceQuery := fq, rawQuery := qu } (L fr) rq) = o) := by
        have := HI.out
        simp only [partsIn, HC.out, HLO.out, HFQ.out, U.S_L] at this
        exact this
      clear hcut HI HC HLO HFQ S2
      go_upto_region 10 with fail
      obtain ⟨W3, HW⟩ : ∃ W3, Hid (wc.setCell ⟨w.heap.size + 1, 11, none⟩ (.string qu) = W3) := ⟨_, rfl⟩
      rw [HW.out] at S3 ⊢
      clear HW f11 c11
      obtain ⟨ns, HNS⟩ : ∃ b, Hid (decide ((L fr).head? ≠ some 47) = b) := ⟨_, rfl⟩
      go_cut [56] (fun t wx => t = .bool ns ∧ wx = W3)
      case first =>
        have e47 : ((47 : UInt8).toNat : Int) = 47 := rfl
        rcases head_ways fr 47 with ⟨h1, h2⟩ | ⟨h1, hz, ⟨h2, h3⟩ | ⟨h2, h3⟩⟩
        · have : ns = true := by rw [← HNS.out]; simpa using h2
          subst this
          clear h2
          go_wp2_with fail
          go_meet
          exact ⟨rfl, rfl⟩
        · have : ns = true := by rw [← HNS.out]; simpa using h3
          subst this
          clear h3
          rw [e47] at h2
          go_wp2_with fail
          go_meet
          exact ⟨rfl, rfl⟩
        · have : ns = false := by rw [← HNS.out]; simpa using h3
          subst this
          clear h3
          rw [e47] at h2
          go_wp2_with fail
          go_meet
          exact ⟨rfl, rfl⟩
      case rest =>
        obtain ⟨rfl, rfl⟩ := hcut
        have HT2 : Hid ((if ns = true then
          if L lo ≠ [] then some (some { V.zero with scheme := lo, forceQuery := fq, rawQuery := qu, opq := fr })
          else if rq || U.among 58 (U.cut 47 (L fr)).1 then some none
          else U.rest { V.zero with scheme := lo, forceQuery := fq, rawQuery := qu } (L fr) rq
          else U.rest { V.zero with scheme := lo, forceQuery := fq, rawQuery := qu } (L fr) rq) = o) := by
          rw [← HNS.out]
          simp only [decide_eq_true_eq]
          exact HT.out
        clear HT HNS
        go_upto_if 56 with fail
        go_cut [] (fun wx => St w wx { V.zero with scheme := lo, forceQuery := fq, rawQuery := qu } ∧ Hid (U.rest { V.zero with scheme := lo, forceQuery := fq, rawQuery := qu } (L fr) rq = o))
        case first =>
          cases ns
          · go_wp2_with fail
            go_meet
            exact ⟨S3.out, HT2.out⟩
          · have c0 := cell_at (o := 0) S3.out.u rfl
            have c1 := cell_at (o := 1) S3.out.u rfl
            have f1 := free_at (o := 1) S3.out.u
            by_cases hlo : L lo = []
            · have h1 : lo.toList = [] := by rw [U.toList_L]; exact hlo
              obtain ⟨f1, H1⟩ : ∃ x, (U.cut 47 (L fr)).1 = L x := ⟨S _, rfl⟩
              obtain ⟨f2, H2⟩ : ∃ x, (U.cut 47 (L fr)).2.1 = L x := ⟨S _, rfl⟩
              obtain ⟨f3, H3⟩ : ∃ x, (U.cut 47 (L fr)).2.2 = x := ⟨_, rfl⟩
              have HC2 : Hid (U.cut 47 (L fr) = (L f1, L f2, f3)) := by rw [← H1, ← H2, ← H3]; rfl
              have hf1 : Sm f1 := by have := U.cut_len1 47 (L fr); rw [H1, U.len_L, U.len_L] at this; unfold Sm at *; omega
              clear H1 H2 H3
              obtain ⟨co, HCO⟩ : ∃ x, Hid (U.among 58 (L f1) = x) := ⟨_, rfl⟩
              have HT3 : Hid ((if rq || co then some none else U.rest { V.zero with scheme := lo, forceQuery := fq, rawQuery := qu } (L fr) rq) = o) := by
                have := HT2.out
                simp only [if_true, hlo, ne_eq, not_true_eq_false, if_false, HC2.out, HCO.out] at this
                exact this
              clear hlo HT2
              go_wp2_with fail
              refine (c_cut fr f1 f2 47 47 f3 _ hsf rfl HC2).mono ?_
              rintro e w4 ⟨rfl, ⟨n4, rfl⟩⟩
              cases rq
              · go_wp2_with fail
                refine (c_among f1 58 58 co _ hf1 rfl HCO).mono ?_
                rintro e w4 ⟨rfl, ⟨n5, rfl⟩⟩
                cases co
                · go_wp2_with fail
                  go_meet
                  exact ⟨S3.out.drewN _, HT3.out⟩
                · go_wp2_with (first | (refine wpl_loadV rfl _ rfl _ _ rfl (S3.out.drewN (n4 + n5)).u ?_) | (refine wpl_storeV rfl _ _ rfl _ _ _ rfl rfl (S3.out.drewN (n4 + n5)).r ?_; intro wR hR oR))
                  refine ret_V2 Tryz.results36 _ _ _ _ rfl rfl rfl rfl hR ?_
                  refine parts_no _ HT3.out.symm ?_
                  exact (S3.out.drewN (n4 + n5)).ret oR
              · go_wp2_with (first | (refine wpl_loadV rfl _ rfl _ _ rfl (S3.out.drewN n4).u ?_) | (refine wpl_storeV rfl _ _ rfl _ _ _ rfl rfl (S3.out.drewN n4).r ?_; intro wR hR oR))
                refine ret_V2 Tryz.results36 _ _ _ _ rfl rfl rfl rfl hR ?_
                refine parts_no _ HT3.out.symm ?_
                exact (S3.out.drewN n4).ret oR
            · have h1 : (lo.toList == []) = false := by rw [U.toList_L]; simpa using hlo
              have HT3 : Hid (some (some { V.zero with scheme := lo, forceQuery := fq, rawQuery := qu, opq := fr }) = o) := by
                have := HT2.out
                simp only [if_true, hlo, ne_eq, not_false_eq_true] at this
                exact this
              clear hlo HT2
              have SO := S3.out.set (v' := { V.zero with scheme := lo, forceQuery := fq, rawQuery := qu, opq := fr }) 1 (.string fr) rfl
              go_wp2_with (first | (refine wpl_loadV rfl _ rfl _ _ rfl SO.u ?_) | (refine wpl_storeV rfl _ _ rfl _ _ _ rfl rfl SO.r ?_; intro wR hR oR))
              refine ret_V2 Tryz.results36 _ _ _ _ rfl rfl rfl rfl hR ?_
              refine parts_ok _ HT3.out.symm ?_
              exact SO.ret oR
        case rest =>
          obtain ⟨s4, HT4⟩ := hcut
          have S4 := Lib.hid s4
          clear s4 HT2 S3
          go_upto_region 17 with fail
          obtain ⟨th, HTH⟩ : ∃ x, Hid (decide ((L fr).take 3 = [47, 47, 47]) = x) := ⟨_, rfl⟩
          go_cut [17] (fun t wx => t = .bool th ∧ wx = wc)
          case first =>
            by_cases h3 : 3 ≤ fr.size
            · have h3' : (3 : Int) ≤ (fr.size : Int) := by omega
              have he : Hid (((fr.extract 0 3).toList == [47, 47, 47]) = th) := by
                rw [← HTH.out, U.toList_L, U.ext_to, U.L_S]
                show ((L fr).take 3 == [47, 47, 47]) = decide ((L fr).take 3 = [47, 47, 47])
                rw [Bool.eq_iff_iff]
                simp
              go_wp2_with fail
              go_meet
              exact ⟨congrArg Value.bool he.out, rfl⟩
            · have h3' : ¬ (3 : Int) ≤ (fr.size : Int) := by omega
              have : th = false := by
                rw [← HTH.out]
                simp only [decide_eq_false_iff_not]
                intro e
                have := congrArg List.length e
                rw [List.length_take, U.len_L] at this
                simp at this
                omega
              subst this
              go_wp2_with fail
              go_meet
              exact ⟨rfl, rfl⟩
          case rest =>
            obtain ⟨rfl, rfl⟩ := hcut
            go_upto_region 18 with fail
            obtain ⟨au, HAU⟩ : ∃ x, Hid (decide ((L lo ≠ [] ∨ rq = false ∧ th = false) ∧ (L fr).take 2 = [47, 47]) = x) := ⟨_, rfl⟩
            go_cut [103] (fun t wx => t = .bool au ∧ wx = wc)
            case first =>
              have c0 := cell_at (o := 0) S4.out.u rfl
              obtain ⟨a1, HA1⟩ : ∃ x, Hid (decide (L lo ≠ [] ∨ rq = false ∧ th = false) = x) := ⟨_, rfl⟩
              obtain ⟨a2, HA2⟩ : ∃ x, Hid (decide ((L fr).take 2 = [47, 47]) = x) := ⟨_, rfl⟩
              have hau : au = (a1 && a2) := by rw [← HAU.out, ← HA1.out, ← HA2.out, Bool.decide_and]
              clear HAU
              subst hau
              have hlo : (L lo = [] ∧ lo.toList = []) ∨ (L lo ≠ [] ∧ (lo.toList == []) = false) := by
                rw [U.toList_L]
                by_cases h : L lo = []
                · exact .inl ⟨h, h⟩
                · exact .inr ⟨h, by simpa using h⟩
              have h2 : (¬ (2 : Int) ≤ (fr.size : Int) ∧ a2 = false) ∨ ((2 : Int) ≤ (fr.size : Int) ∧ ((fr.extract 0 2).toList == [47, 47]) = a2) := by
                by_cases h : (2 : Int) ≤ (fr.size : Int)
                · refine .inr ⟨h, ?_⟩
                  rw [← HA2.out, U.toList_L, U.ext_to, U.L_S]
                  show ((L fr).take 2 == [47, 47]) = decide ((L fr).take 2 = [47, 47])
                  rw [Bool.eq_iff_iff]
                  simp
                · refine .inl ⟨h, ?_⟩
                  rw [← HA2.out]
                  simp only [decide_eq_false_iff_not]
                  intro e
                  have := congrArg List.length e
                  rw [List.length_take, U.len_L] at this
                  simp at this
                  omega
              have h1 : (((lo.toList == []) = false ∧ a1 = true) ∨ (lo.toList = [] ∧ rq = true ∧ a1 = false) ∨ (lo.toList = [] ∧ rq = false ∧ th = true ∧ a1 = false) ∨ (lo.toList = [] ∧ rq = false ∧ th = false ∧ a1 = true)) := by
                rw [← HA1.out]
                rcases hlo with ⟨e1, e2⟩ | ⟨e1, e2⟩
                · cases rq
                  · cases th
                    · exact .inr (.inr (.inr ⟨e2, rfl, rfl, by simp⟩))
                    · exact .inr (.inr (.inl ⟨e2, rfl, rfl, by simp [e1]⟩))
                  · exact .inr (.inl ⟨e2, rfl, by simp [e1]⟩)
                · exact .inl ⟨e2, by simp [e1]⟩
              clear HA1 HA2 hlo
              rcases h1 with ⟨h1, rfl⟩ | ⟨h1, rfl, rfl⟩ | ⟨h1, rfl, rfl, rfl⟩ | ⟨h1, rfl, rfl, rfl⟩ <;> rcases h2 with ⟨h2, rfl⟩ | ⟨h2, h4⟩
              all_goals go_wp2_with fail
              all_goals go_meet
              all_goals exact ⟨rfl, rfl⟩
            case rest =>
              obtain ⟨rfl, rfl⟩ := hcut
              have HT5 : Hid ((if au = true then restAuth { V.zero with scheme := lo, forceQuery := fq, rawQuery := qu } ((L fr).drop 2) else restBare { V.zero with scheme := lo, forceQuery := fq, rawQuery := qu } (L fr)) = o) := by
                have := HT4.out
                rw [rest_eq] at this
                rw [← HAU.out, ← HTH.out]
                simp only [decide_eq_true_eq, decide_eq_false_iff_not]
                exact this
              have HAZ : Hid (au = true → (2 : Int) ≤ (fr.size : Int)) := by
                intro h
                have h2 := HAU.out
                rw [h] at h2
                have := congrArg List.length (of_decide_eq_true h2).2
                rw [List.length_take, U.len_L] at this
                simp at this
                omega
              clear HT4
              go_upto_if 103 with fail
              go_cut [9] (fun t wx => ∃ (pa : ByteArray) (u' : V), t = .string pa ∧ St w wx u' ∧ Sm pa ∧ Hid (finish u' pa = o))
              case first =>
                cases au
                · have HT6 : Hid (restBare { V.zero with scheme := lo, forceQuery := fq, rawQuery := qu } (L fr) = o) := by
                    have := HT5.out
                    simp only [if_false, Bool.false_eq_true] at this
                    exact this
                  clear HT5
                  have c0 := cell_at (o := 0) S4.out.u rfl
                  have c9 := cell_at (o := 9) S4.out.u rfl
                  have f9 := free_at (o := 9) S4.out.u
                  have hlo : (L lo = [] ∧ lo.toList = []) ∨ (L lo ≠ [] ∧ (lo.toList == []) = false) := by
                    rw [U.toList_L]
                    by_cases h : L lo = []
                    · exact .inl ⟨h, h⟩
                    · exact .inr ⟨h, by simpa using h⟩
                  have hfr : (L fr = [] ∧ fr.toList = []) ∨ (L fr ≠ [] ∧ (fr.toList == []) = false) := by
                    rw [U.toList_L]
                    by_cases h : L fr = []
                    · exact .inl ⟨h, h⟩
                    · exact .inr ⟨h, by simpa using h⟩
                  rcases hlo with ⟨e1, h1⟩ | ⟨e1, h1⟩
                  · have HT7 : Hid (finish { V.zero with scheme := lo, forceQuery := fq, rawQuery := qu } fr = o) := by
                      rw [← HT6.out, restBare, if_neg (by simp [e1]), U.S_L]; rfl
                    clear HT6 e1 hfr
                    go_wp2_with fail
                    go_meet
                    exact ⟨fr, _, rfl, S4.out, hsf, HT7.out⟩
                  · rcases hfr with ⟨e2, h2⟩ | ⟨e2, h2⟩
                    · have HT7 : Hid (finish { V.zero with scheme := lo, forceQuery := fq, rawQuery := qu } fr = o) := by
                        rw [← HT6.out, restBare, if_neg (by simp [e2]), U.S_L]; rfl
                      clear HT6 e1 e2
                      go_wp2_with fail
                      go_meet
                      exact ⟨fr, _, rfl, S4.out, hsf, HT7.out⟩
                    · have HT7 : Hid (finish { V.zero with scheme := lo, forceQuery := fq, rawQuery := qu, omitHost := true } fr = o) := by
                        rw [← HT6.out, restBare, if_pos ⟨e1, e2⟩, U.S_L]; rfl
                      clear HT6 e1 e2
                      go_wp2_with fail
                      go_meet
                      exact ⟨fr, _, rfl, S4.out.set 9 (.bool true) rfl, hsf, HT7.out⟩
                · have := HZ2.out
                  rw [isAuthF, ← Bool.not_eq_true, decide_eq_true_eq] at this
                  have h2 := of_decide_eq_true HAU.out
                  exact absurd ⟨h2.1.imp id (fun h => ⟨h.1, of_decide_eq_false (HTH.out.trans h.2)⟩), h2.2⟩ this
              case rest =>
                obtain ⟨pa, u', rfl, s5, hpa, HFI⟩ := hcut
                have S5 := Lib.hid s5
                clear s5 HT5
                go_wp2_with fail
                refine (c_setPath _ _ u' pa hpa S5.out.u).mono ?_
                rintro e w6 ⟨rfl, u6, o6⟩
                have s6 := S5.out.only o6 u6
                have S6 := Lib.hid s6
                clear s6 u6 o6 S5
                go_wp2_with (first | (refine wpl_loadV rfl _ rfl _ _ rfl S6.out.u ?_) | (refine wpl_storeV rfl _ _ rfl _ _ _ rfl rfl S6.out.r ?_; intro wR hR oR))
                refine ret_V2 Tryz.results36 _ _ _ _ rfl rfl rfl rfl hR ?_
                have hb : ∀ W, Below w.heap.size w W → PartsPost w o (.returned (.tuple #[(U.setPath u' pa).1.val, .bool (U.setPath u' pa).2, .bool true])) W := by
                  intro W hW
                  have := HFI.out
                  unfold finish at this
                  cases h : (U.setPath u' pa).2
                  · rw [h, if_neg (by decide)] at this
                    exact parts_no _ this.symm hW
                  · rw [h, if_pos rfl] at this
                    exact parts_ok _ this.symm hW
                refine hb _ ?_
                exact S6.out.ret oR
end Go.Proofs.YtphkohpphdcjhaaGreatDoor
