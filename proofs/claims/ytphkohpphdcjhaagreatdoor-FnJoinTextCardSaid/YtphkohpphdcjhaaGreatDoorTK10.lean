/- The walk of the parse of the package. -/
import Derived.Test.YtphkohpphdcjhaaGreatDoorTK9
import Derived.Test.YtphkohpphdcjhaaGreatDoorTK4
namespace Go.Proofs.YtphkohpphdcjhaaGreatDoor
open Go.RowKit Go.Proofs.YtphkohpphdcjhaaGreatDoorW.PrintWords
open U (L S)

/-- What parse hands back. -/
def ParseP (W : World) (o : Option V) (e : Ending) (w' : World) : Prop :=
  Below W.heap.size W w' ∧ match o with
  | none => ∃ x, IsErr x ∧ e = .returned (.tuple #[.pointer none, x])
  | some v => ∃ g, e = .returned (.tuple #[.pointer (some ⟨g, 0, none⟩), .nilIface]) ∧ W.heap.size ≤ g ∧ IsU w' g v
/-- The block of the call. -/
structure Su (W w : World) (v : V) : Prop where
  u : IsU w W.heap.size v
  b : Below W.heap.size W w
theorem Su.keep {w W W' : World} {v : V} (h : Su w W v) (hb : Below W.heap.size W W') : Su w W' v :=
  ⟨h.u.keep hb, h.b.trans (hb.mono h.b.size)⟩
theorem Su.drewN {w W : World} {v : V} (h : Su w W v) (n : Nat) : Su w (W.drewN n) v := ⟨h.u, below_n h.b n⟩
theorem Su.only {w W W' : World} {v v' : V} (h : Su w W v) (ho : Only w.heap.size W W') (hu : IsU W' w.heap.size v') : Su w W' v' :=
  ⟨hu, Only.below h.b ho h.b.size (Nat.le_refl _)⟩
/-- A part other than the user is given. -/
theorem Su.set {w W : World} {v v' : V} (h : Su w W v) (o : Nat) (x : Value) (hv : ∀ u, (v.ucells u).setIfInBounds o x = v'.ucells u)
    (e1 : v'.user = v.user := by rfl) (e2 : v'.pass = v.pass := by rfl) (e3 : v'.hasUser = v.hasUser := by rfl) (e4 : v'.hasPass = v.hasPass := by rfl) : Su w (W.setCell ⟨w.heap.size, o, none⟩ x) v' := by
  obtain ⟨u, h1, h2⟩ := h.u
  exact h.only ((Only.refl _ _).setCell _ _) (IsU.set h1 h2 o x (hv u) e1 e2 e3 e4)
theorem Su.cell {w W : World} {v : V} (h : Su w W v) (o : Nat) (x : Value) (ho : o ≠ 2) (hv : (v.ucells (.pointer none))[o]? = some x) : W.cell? ⟨w.heap.size, o, none⟩ = some x := by
  obtain ⟨u, h1, _⟩ := h.u
  have : (v.ucells u)[o]? = some x := by
    rw [← hv]
    match o, ho with
    | 0, _ => rfl
    | 1, _ => rfl
    | 2, h => exact absurd rfl h
    | 3, _ => rfl
    | 4, _ => rfl
    | 5, _ => rfl
    | 6, _ => rfl
    | 7, _ => rfl
    | 8, _ => rfl
    | 9, _ => rfl
    | 10, _ => rfl
    | n + 11, _ => rfl
  exact cell_at h1 this
theorem Su.cell2 {w W : World} {v : V} (h : Su w W v) : ∃ x, W.cell? ⟨w.heap.size, 2, none⟩ = some x := by
  obtain ⟨u, h1, _⟩ := h.u
  exact ⟨u, cell_at h1 rfl⟩
theorem Su.free {w W : World} {v : V} (h : Su w W v) (o : Nat) : W.frozen? ⟨w.heap.size, o, none⟩ = false := by
  obtain ⟨u, h1, _⟩ := h.u
  exact free_at h1
theorem su_new (W : World) (v : V) (h : v.hasUser = false := by rfl) : Su W (W.alloc (.cells (v.ucells (.pointer none)) 80)) v :=
  ⟨⟨.pointer none, heap_new _ _ _ rfl, .inl ⟨h, rfl⟩⟩, (Below.refl _ _).alloc (Nat.le_refl _) _⟩
/-- A user, or none, and a host are given. -/
theorem Su.auth {w W : World} {v : V} (h : Su w W v) (x : Value) (n p ho : ByteArray) (b f : Bool) (hx : (b = false ∧ x = .pointer none) ∨ (b = true ∧ ∃ k, x = .pointer (some ⟨k, 0, none⟩) ∧ W.heap[k]? = some (.cells #[.string n, .string p, .bool f] 107 (0, 0)))) :
    Su w ((W.setCell ⟨w.heap.size, 2, none⟩ x).setCell ⟨w.heap.size, 3, none⟩ (.string ho)) { v with host := ho, user := n, pass := p, hasUser := b, hasPass := f } := by
  obtain ⟨u, h1, _⟩ := h.u
  have hO : Only w.heap.size W ((W.setCell ⟨w.heap.size, 2, none⟩ x).setCell ⟨w.heap.size, 3, none⟩ (.string ho)) := ((Only.refl _ _).setCell _ _).setCell _ _
  refine h.only hO ⟨x, heap_set (heap_set h1 x) (.string ho), ?_⟩
  have hU : UserAt W { v with host := ho, user := n, pass := p, hasUser := b, hasPass := f } x := hx
  exact hU.only hO h1 (by decide)
theorem Su.tab {w W : World} {v : V} (h : Su w W v) (hT : Tab w) : Tab W := hT.below h.b

theorem count_app (c : UInt8) (a b : U.B) : count c (a ++ b) = count c a + count c b := by simp [count]
theorem count_zero (c : UInt8) (l : U.B) (h : U.among c l = false) : count c l = 0 := by
  have e : ∀ x ∈ l, x ≠ c := by simpa [U.among] using h
  unfold count
  rw [List.filter_eq_nil_iff.2]
  · rfl
  · intro x hx
    simpa using e x hx
theorem before_no (c : UInt8) : ∀ l : U.B, U.among c (U.cut c l).1 = false
  | [] => rfl
  | x :: r => by
    have ih := before_no c r
    by_cases h : x = c
    · have e : U.idx c (x :: r) = 0 := if_pos h
      simp [U.cut, e, U.among]
    · have e : U.idx c (x :: r) = U.idx c r + 1 := if_neg h
      simp only [U.cut] at ih ⊢
      rw [e, List.take_succ_cons]
      show (x == c || U.among c (List.take (U.idx c r) r)) = false
      rw [ih, beq_eq_false_iff_ne.2 h]
      rfl
theorem last_among (c : UInt8) (l : U.B) (h : l.getLast? = some c) : U.among c l = true := by
  obtain ⟨a, rfl⟩ := List.getLast?_eq_some_iff.1 h
  simp [U.among]
/-- A query that is asked for and empty. -/
theorem asked_is (l : U.B) : ((U.cut 63 l).2.2 && (U.cut 63 l).2.1.isEmpty) = (decide (l.getLast? = some 63) && decide ((count 63 l : Int) = 1)) := by
  have hb := before_no 63 l
  cases hc : (U.cut 63 l).2.2
  · have h1 := (U.cut_none 63 l hc).1
    rw [h1] at hb
    have : ¬ l.getLast? = some 63 := fun e => by rw [last_among 63 l e] at hb; exact absurd hb (by decide)
    simp [this]
  · have hl := U.cut_found 63 l hc
    generalize (U.cut 63 l).1 = a at hl hb ⊢
    generalize (U.cut 63 l).2.1 = b at hl ⊢
    subst hl
    have h0 := count_zero 63 a hb
    have h1 : count 63 (a ++ 63 :: b) = 1 + count 63 b := by
      rw [count_app, h0]
      show 0 + (List.filter _ (63 :: b)).length = _
      simp [count]
      omega
    rw [h1]
    cases b with
    | nil => simp [count]
    | cons x r =>
      have : ¬ ((a ++ 63 :: x :: r).getLast? = some 63 ∧ ((1 + count 63 (x :: r) : Nat) : Int) = 1) := by
        rintro ⟨e1, e2⟩
        have e3 : (x :: r).getLast? = some 63 := by
          have e5 := e1
          rw [show a ++ 63 :: x :: r = (a ++ [63]) ++ (x :: r) by simp, List.getLast?_append] at e5
          cases h : (x :: r).getLast? with
          | none => simp at h
          | some y =>
            rw [h] at e5
            exact e5
        have e4 := last_among 63 _ e3
        have : 0 < count 63 (x :: r) := by
          unfold count
          rw [List.length_pos_iff_exists_mem]
          obtain ⟨y, hy, hy2⟩ := List.any_eq_true.1 e4
          exact ⟨y, List.mem_filter.2 ⟨hy, hy2⟩⟩
        omega
      rw [← Bool.decide_and, decide_eq_false this]
      rfl

theorem head_take (l : U.B) (c : UInt8) : l.take 1 = [c] ↔ l.head? = some c := by
  cases l with
  | nil => simp
  | cons x r => simp
/-- What is left of parts, the scheme and the query known. -/
def partsMid (lo fr qu : ByteArray) (fq rq : Bool) : Option (Option V) :=
  if (L fr).head? ≠ some 47 then
    if L lo ≠ [] then some (some { V.zero with scheme := lo, forceQuery := fq, rawQuery := qu, opq := fr })
    else if rq || U.among 58 (U.cut 47 (L fr)).1 then some none
    else U.rest { V.zero with scheme := lo, forceQuery := fq, rawQuery := qu } (L fr) rq
  else U.rest { V.zero with scheme := lo, forceQuery := fq, rawQuery := qu } (L fr) rq
theorem partsMid_eq (sc re : U.B) (rq : Bool) : partsIn sc re rq = partsMid (S (U.lower sc)) (S (U.cut 63 re).1) (S (U.cut 63 re).2.1) ((U.cut 63 re).2.2 && (U.cut 63 re).2.1.isEmpty) rq := rfl
theorem retP_no {W w' : World} {x : Value} {o : Option V} (ho : o = none) (hx : IsErr x) (h : Below W.heap.size W w') : ParseP W o (.returned (.tuple #[.pointer none, x])) w' := by
  subst ho
  exact ⟨h, x, hx, rfl⟩
theorem retP_ok {W w' : World} {o : Option V} {v : V} (ho : o = some v) (h : Su W w' v) : ParseP W o (.returned (.tuple #[.pointer (some ⟨W.heap.size, 0, none⟩), .nilIface])) w' := by
  subst ho
  exact ⟨h.b, _, rfl, Nat.le_refl _, h.u⟩

set_option maxRecDepth 100000 in
set_option maxHeartbeats 8000000 in
theorem i_parse (s : ByteArray) (rq : Bool) (o : Option V) (W : World) (hs0 : s.size ≤ 10000000) (hT : Tab W) (hO : U.parse1 (L s) rq = some o) :
    Calls Tryz.prog 65 #[.string s, .bool rq] W (ParseP W o) := by
  have hs : Sm s := by unfold Sm; omega
  have HT := Lib.hid hT
  clear hT
  unfold U.parse1 at hO
  obtain ⟨ct, HCT⟩ : ∃ b, Hid ((L s).any U.ctl1 = b) := ⟨_, rfl⟩
  rw [HCT.out] at hO
  cases ct with
  | true =>
    have ho : o = none := by simpa using hO.symm
    clear hO
    have HO := Lib.hid ho
    clear ho
    go_enter Tryz.func65, Tryz.ntmps65
    go_wp2_with fail
    refine (i_ctl s true _ hs HCT).mono ?_
    rintro e w1 ⟨rfl, rfl⟩
    go_wp2_with fail
    refine (i_errNew _ _).mono ?_
    rintro e w2 ⟨rfl, b2⟩
    go_wp2_with fail
    go_ret2
    exact retP_no HO.out ⟨_, _, rfl⟩ b2
  | false =>
    rw [if_neg (by decide)] at hO
    by_cases hem : L s = [] ∧ rq = true
    · have ho : o = none := by rw [if_pos (by simp [hem])] at hO; simpa using hO.symm
      have h1 : s.toList = [] := by rw [U.toList_L]; exact hem.1
      obtain ⟨h2, rfl⟩ := hem
      have HO := Lib.hid ho
      clear ho hO h2
      go_enter Tryz.func65, Tryz.ntmps65
      go_wp2_with fail
      refine (i_ctl s false _ hs HCT).mono ?_
      rintro e w1 ⟨rfl, rfl⟩
      go_wp2_with fail
      refine (i_errNew _ _).mono ?_
      rintro e w2 ⟨rfl, b2⟩
      go_wp2_with fail
      go_ret2
      exact retP_no HO.out ⟨_, _, rfl⟩ b2
    · rw [if_neg (by simpa using hem)] at hO
      have HEM : Hid ((s.toList = [] ∧ rq = false) ∨ (s.toList == []) = false) := by
        rw [U.toList_L]
        by_cases h : L s = []
        · refine .inl ⟨h, ?_⟩
          cases rq
          · rfl
          · exact absurd ⟨h, rfl⟩ hem
        · exact .inr (by simpa using h)
      clear hem
      by_cases hst : L s = [42]
      · rw [if_pos hst] at hO
        have ho : o = some { V.zero with path := S [42] } := by simpa using hO.symm
        have h1 : (s.toList == []) = false := by rw [U.toList_L, hst]; rfl
        have h2 : (s.toList == [42]) = true := by rw [U.toList_L, hst]; rfl
        have S1 := Lib.hid (su_new W { V.zero with path := S [42] })
        have HO := Lib.hid ho
        clear ho hO hst HEM
        go_enter Tryz.func65, Tryz.ntmps65
        go_wp2_with fail
        refine (i_ctl s false _ hs HCT).mono ?_
        rintro e w1 ⟨rfl, rfl⟩
        go_wp2_with fail
        go_ret2
        exact retP_ok HO.out S1.out
      · rw [if_neg hst] at hO
        have hst2 : (s.toList == [42]) = false := by rw [U.toList_L]; simpa using hst
        rw [partsIn_eq] at hO
        have S0 := Lib.hid (su_new W V.zero)
        obtain ⟨sc, H1⟩ : ∃ x, (U.scheme (L s)).1 = L x := ⟨S _, rfl⟩
        obtain ⟨re, H2⟩ : ∃ x, (U.scheme (L s)).2.1 = L x := ⟨S _, rfl⟩
        obtain ⟨ok, H3⟩ : ∃ x, (U.scheme (L s)).2.2 = x := ⟨_, rfl⟩
        have hasc := scheme_ascii (L s)
        have HS : U.scheme (L s) = (L sc, L re, ok) := by rw [← H1, ← H2, ← H3]
        have hsz : sc.size ≤ s.size ∧ re.size ≤ s.size := by
          have := U.sch_len (L s) (L s) 0
          have e := HS
          rw [U.scheme] at e
          rw [e, U.len_L, U.len_L, U.len_L] at this
          exact this
        have cg := i_getScheme s (W.alloc (.cells (V.zero.ucells (.pointer none)) 80)) hs
        rw [HS] at cg hO hasc
        have CG := Lib.hid cg
        have HO := Lib.hid hO
        have HASC := Lib.hid hasc
        clear hst hO H1 H2 H3 HS cg hasc
        have hss : Sm sc := by unfold Sm; omega
        have hsr : Sm re := by unfold Sm; omega
        go_enter Tryz.func65, Tryz.ntmps65
        go_wp2_with fail
        refine (i_ctl s false _ hs HCT).mono ?_
        rintro e w1 ⟨rfl, rfl⟩
        go_upto_region 5 with fail
        go_cut [22] (fun t wx => t = .bool false ∧ wx = W)
        case first =>
          as_aux_lemma =>
          rcases HEM.out with ⟨h1, rfl⟩ | h1
          all_goals
            go_wp2_with fail
            go_meet
            exact ⟨rfl, rfl⟩
        case rest =>
          as_aux_lemma =>
          obtain ⟨rfl, e⟩ := hcut
          obtain rfl := e.symm
          clear HEM
          go_upto_region 11 with fail
          obtain ⟨W0, HW0⟩ : ∃ W0, Hid (W.alloc (.cells (V.zero.ucells (.pointer none)) 80) = W0) := ⟨_, rfl⟩
          have HW := HW0.out
          rw [HW] at S0 CG
          change Code.wp _ _ _ _ (W.alloc (.cells (V.zero.ucells (.pointer none)) 80))
          rw [HW]
          clear HW HW0 hst2
          go_wp2_with fail
          refine CG.out.mono ?_
          cases ok with
          | false =>
            rintro e w1 ⟨b1, x, ⟨t, y, rfl⟩, rfl⟩
            have ho : o = none := by have := HO.out; simpa using this.symm
            have S1 := S0.out.keep b1
            have c0 := S1.cell 0 _ (by decide) rfl
            have f0 := S1.free 0
            have S2 := Lib.hid (S1.set (v' := V.zero) 0 (.string E) (fun _ => rfl))
            have HO2 := Lib.hid ho
            clear b1 S1 ho
            go_wp2_with fail
            go_ret2
            exact retP_no HO2.out ⟨t, y, rfl⟩ S2.out.b
          | true =>
            rintro e w1 ⟨b1, rfl⟩
            rw [U.S_L, U.S_L]
            have hO : partsIn (L sc) (L re) rq = some o := by have := HO.out; simpa using this
            rw [partsMid_eq] at hO
            have S1 := S0.out.keep b1
            have c0 := S1.cell 0 _ (by decide) rfl
            have f0 := S1.free 0
            have S2 := Lib.hid (S1.set (v' := { V.zero with scheme := sc }) 0 (.string sc) (fun _ => rfl))
            have HO2 := Lib.hid hO
            clear b1 S1 hO HO CG
            go_upto_region 14 with fail
            obtain ⟨W2, HW2⟩ : ∃ W2, Hid (w1.setCell ⟨W.heap.size, 0, none⟩ (.string sc) = W2) := ⟨_, rfl⟩
            rw [HW2.out] at S2 ⊢
            clear HW2 c0 f0
            obtain ⟨lo, HLO⟩ : ∃ x, Hid (U.lower (L sc) = L x) := ⟨S _, rfl⟩
            obtain ⟨fr, H1⟩ : ∃ x, (U.cut 63 (L re)).1 = L x := ⟨S _, rfl⟩
            obtain ⟨qu, H2⟩ : ∃ x, (U.cut 63 (L re)).2.1 = L x := ⟨S _, rfl⟩
            obtain ⟨as_, H3⟩ : ∃ x, (U.cut 63 (L re)).2.2 = x := ⟨_, rfl⟩
            have HC : Hid (U.cut 63 (L re) = (L fr, L qu, as_)) := by rw [← H1, ← H2, ← H3]; rfl
            have hsf : Sm fr := by have := U.cut_len1 63 (L re); rw [H1, U.len_L, U.len_L] at this; unfold Sm at *; omega
            have hsq : fr.size ≤ s.size := by have := U.cut_len1 63 (L re); rw [H1, U.len_L, U.len_L] at this; omega
            obtain ⟨fq, HFQ⟩ : ∃ b, Hid ((as_ && (L qu).isEmpty) = b) := ⟨_, rfl⟩
            have HM : Hid (partsMid lo fr qu fq rq = some o) := by
              have := HO2.out
              rw [HLO.out, H1, H2, H3, U.S_L, U.S_L, U.S_L, HFQ.out] at this
              exact this
            have HAQ : Hid (fq = (decide ((L re).getLast? = some 63) && decide ((count 63 (L re) : Int) = 1))) := by
              rw [← asked_is, H2, H3]
              exact Lib.hid HFQ.out.symm
            clear H1 H2 H3 HO2
            have c0 := S2.out.cell 0 _ (by decide) rfl
            have f0 := S2.out.free 0
            go_wp2_with fail
            refine (i_lower sc lo _ hss HASC.out HLO).mono ?_
            rintro e w3 ⟨rfl, b3⟩
            have S3 := S2.out.keep b3
            have c0' := S3.cell 0 _ (by decide) rfl
            have f0' := S3.free 0
            have S4 := Lib.hid (S3.set (v' := { V.zero with scheme := lo }) 0 (.string lo) (fun _ => rfl))
            clear b3 S3 S2 c0 f0
            go_upto_region 15 with fail
            obtain ⟨W4, HW4⟩ : ∃ W2, Hid (w3.setCell ⟨W.heap.size, 0, none⟩ (.string lo) = W2) := ⟨_, rfl⟩
            rw [HW4.out] at S4 ⊢
            clear HW4 c0' f0' HASC HLO
            go_cut [57] (fun t wx => t = .bool fq ∧ wx = W4)
            case first =>
              as_aux_lemma =>
              obtain ⟨l1, HL1⟩ : ∃ b, Hid (decide ((L re).getLast? = some 63) = b) := ⟨_, rfl⟩
              go_wp2_with fail
              refine (i_suffix1 re 63 _ l1 _ hsr rfl HL1).mono ?_
              rintro e w1 ⟨rfl, rfl⟩
              cases l1
              · have : fq = false := by rw [HAQ.out, HL1.out]; rfl
                subst this
                go_wp2_with fail
                go_meet
                exact ⟨rfl, rfl⟩
              · have : fq = decide ((count 63 (L re) : Int) = 1) := by rw [HAQ.out, HL1.out]; rfl
                obtain ⟨n, HN⟩ : ∃ n : Int, Hid ((count 63 (L re) : Int) = n) := ⟨_, rfl⟩
                rw [HN.out] at this
                have HF := Lib.hid this
                clear this
                go_wp2_with fail
                refine (i_count re _ 63 n _ hsr rfl HN).mono ?_
                rintro e w1 ⟨rfl, rfl⟩
                go_wp2_with fail
                go_meet
                refine ⟨?_, rfl⟩
                rw [HF.out]
                rfl
            case rest =>
              as_aux_lemma =>
              obtain ⟨rfl, e⟩ := hcut
              obtain rfl := e.symm
              go_upto_if 57 with fail
              go_cut [6] (fun t wx => t = .string fr ∧ Su W wx { V.zero with scheme := lo, forceQuery := fq, rawQuery := qu })
              case first =>
                as_aux_lemma =>
                cases fq
                · have c6 := S4.out.cell 6 _ (by decide) rfl
                  have f6 := S4.out.free 6
                  have S5 := Lib.hid (fun n => (S4.out.drewN n).set (v' := { V.zero with scheme := lo, forceQuery := false, rawQuery := qu }) 6 (.string qu) (fun _ => rfl))
                  go_wp2_with fail
                  refine (i_cut re _ fr qu 63 as_ _ hsr rfl HC).mono ?_
                  rintro e w1 ⟨rfl, ⟨n, rfl⟩⟩
                  go_wp2_with fail
                  go_meet
                  exact ⟨rfl, S5.out _⟩
                · have c9 := S4.out.cell 9 _ (by decide) rfl
                  have f9 := S4.out.free 9
                  have hfq := HFQ.out
                  simp only [Bool.and_eq_true, List.isEmpty_iff] at hfq
                  obtain ⟨rfl, hq⟩ := hfq
                  have hq2 : qu = E := U.L_nil hq
                  subst hq2
                  have hl := U.cut_found 63 (L re) (by rw [HC.out])
                  rw [HC.out] at hl
                  have hz : re.size = fr.size + 1 := by
                    have := congrArg List.length hl
                    rw [List.length_append, U.len_L, U.len_L] at this
                    simpa [show L E = [] from rfl] using this
                  have HE : Hid (re.extract 0 fr.size = fr) := by
                    rw [U.ext_to]
                    rw [hl, List.take_left' (U.len_L fr), U.S_L]
                    exact Lib.hid rfl
                  have hb : ((re.size : Int) - 1).toNat = fr.size := by omega
                  have hb2 : (re.size : Int) - 1 ≤ re.size := by omega
                  have hb3 : 0 ≤ (re.size : Int) - 1 := by omega
                  have S5 := Lib.hid (S4.out.set (v' := { V.zero with scheme := lo, forceQuery := true }) 9 (.bool true) (fun _ => rfl))
                  clear hl hq hz
                  go_wp2_with fail
                  go_meet
                  exact ⟨by rw [HE.out], S5.out⟩
              case rest =>
                as_aux_lemma =>
                obtain ⟨rfl, s5⟩ := hcut
                have S5 := Lib.hid s5
                clear s5 S4 HC HAQ HFQ
                obtain ⟨ns, HNS⟩ : ∃ b, Hid (decide ((L fr).head? = some 47) = b) := ⟨_, rfl⟩
                have HNP : Hid (decide ((L fr).take (one 47).size = L (one 47)) = ns) := by
                  rw [← HNS.out]
                  refine Lib.hid ?_
                  rw [Bool.eq_iff_iff, decide_eq_true_eq, decide_eq_true_eq]
                  exact head_take _ _
                obtain ⟨W5, hW5⟩ : ∃ x, wc = x := ⟨_, rfl⟩
                rw [hW5] at S5 ⊢
                clear hW5
                go_wp2_with fail
                refine (i_prefix fr _ ns _ HNP).mono ?_
                rintro e w1 ⟨rfl, rfl⟩
                go_upto_if 77 with fail
                go_cut [] (fun wx => ∃ n, wx = W5.drewN n ∧ Hid (U.rest { V.zero with scheme := lo, forceQuery := fq, rawQuery := qu } (L fr) rq = some o) ∧ Hid (L lo ≠ [] → (L fr).head? = some 47))
                case first =>
                  as_aux_lemma =>
                  cases ns
                  · have c0 := S5.out.cell 0 _ (by decide) rfl
                    have c1 := S5.out.cell 1 _ (by decide) rfl
                    have f1 := S5.out.free 1
                    have hM := HM.out
                    unfold partsMid at hM
                    rw [if_pos (of_decide_eq_false HNS.out)] at hM
                    by_cases hlo : L lo = []
                    · have h1 : lo.toList = [] := by rw [U.toList_L]; exact hlo
                      rw [if_neg (fun h => h hlo)] at hM
                      have HM2 := Lib.hid hM
                      have HHD : Hid (L lo ≠ [] → (L fr).head? = some 47) := Lib.hid (fun h => absurd hlo h)
                      clear hlo hM HM
                      cases rq
                      · obtain ⟨a1, H1⟩ : ∃ x, (U.cut 47 (L fr)).1 = L x := ⟨S _, rfl⟩
                        obtain ⟨a2, H2⟩ : ∃ x, (U.cut 47 (L fr)).2.1 = L x := ⟨S _, rfl⟩
                        obtain ⟨a3, H3⟩ : ∃ x, (U.cut 47 (L fr)).2.2 = x := ⟨_, rfl⟩
                        have HC2 : Hid (U.cut 47 (L fr) = (L a1, L a2, a3)) := by rw [← H1, ← H2, ← H3]; rfl
                        have hf1 : Sm a1 := by have := U.cut_len1 47 (L fr); rw [H1, U.len_L, U.len_L] at this; unfold Sm at *; omega
                        obtain ⟨co, HCO⟩ : ∃ x, Hid (U.among 58 (L a1) = x) := ⟨_, rfl⟩
                        have HM3 : Hid ((if co = true then some none else U.rest { V.zero with scheme := lo, forceQuery := fq, rawQuery := qu } (L fr) false) = some o) := by
                          have := HM2.out
                          rw [H1, HCO.out, Bool.false_or] at this
                          exact Lib.hid this
                        clear H1 H2 H3 HM2
                        go_wp2_with fail
                        refine (i_cut fr _ a1 a2 47 a3 _ hsf rfl HC2).mono ?_
                        rintro e w1 ⟨rfl, ⟨n, rfl⟩⟩
                        go_wp2_with fail
                        refine (i_contains a1 _ 58 co _ hf1 rfl HCO).mono ?_
                        rintro e w1 ⟨rfl, rfl⟩
                        cases co
                        · have HM4 : Hid (U.rest { V.zero with scheme := lo, forceQuery := fq, rawQuery := qu } (L fr) false = some o) := by
                            have := HM3.out
                            rwa [if_neg (by decide)] at this
                          clear HM3
                          go_wp2_with fail
                          go_meet
                          exact ⟨n, rfl, HM4, HHD⟩
                        · have ho : o = none := by
                            have := HM3.out
                            rw [if_pos rfl] at this
                            simpa using this.symm
                          have HO2 := Lib.hid ho
                          clear HM3 ho
                          go_wp2_with fail
                          refine (i_errNew _ _).mono ?_
                          rintro e w2 ⟨rfl, b2⟩
                          go_wp2_with fail
                          go_ret2
                          exact retP_no HO2.out ⟨_, _, rfl⟩ ((S5.out.drewN n).keep b2).b
                      · have ho : o = none := by have := HM2.out; simpa using this.symm
                        have HO2 := Lib.hid ho
                        clear HM2 ho
                        go_wp2_with fail
                        refine (i_errNew _ _).mono ?_
                        rintro e w2 ⟨rfl, b2⟩
                        go_wp2_with fail
                        go_ret2
                        exact retP_no HO2.out ⟨_, _, rfl⟩ (S5.out.keep b2).b
                    · have h1 : (lo.toList == []) = false := by rw [U.toList_L]; simpa using hlo
                      rw [if_pos hlo] at hM
                      have ho : o = some { V.zero with scheme := lo, forceQuery := fq, rawQuery := qu, opq := fr } := by simpa using hM.symm
                      have HO2 := Lib.hid ho
                      have SO := Lib.hid (S5.out.set (v' := { V.zero with scheme := lo, forceQuery := fq, rawQuery := qu, opq := fr }) 1 (.string fr) (fun _ => rfl))
                      clear hlo hM HM ho
                      go_wp2_with fail
                      go_ret2
                      exact retP_ok HO2.out SO.out
                  · have HM2 : Hid (U.rest { V.zero with scheme := lo, forceQuery := fq, rawQuery := qu } (L fr) rq = some o) := by
                      have := HM.out
                      unfold partsMid at this
                      rw [if_neg (fun h => h (of_decide_eq_true HNS.out))] at this
                      exact Lib.hid this
                    clear HM
                    go_wp2_with fail
                    go_meet
                    exact ⟨0, rfl, HM2, Lib.hid (fun _ => of_decide_eq_true HNS.out)⟩
                case rest =>
                  as_aux_lemma =>
                  obtain ⟨n5, e, HR, HHD⟩ := hcut
                  have S6 : Hid (Su W wc { V.zero with scheme := lo, forceQuery := fq, rawQuery := qu }) := by
                    rw [e]
                    exact Lib.hid (S5.out.drewN n5)
                  obtain ⟨W6, hW6⟩ : ∃ x, wc = x := ⟨_, rfl⟩
                  rw [hW6] at S6 ⊢
                  clear hW6 e S5 HM HNS HNP
                  go_upto_region 28 with fail
                  obtain ⟨th, HTH⟩ : ∃ x, Hid (decide ((L fr).take (⟨#[47, 47, 47]⟩ : ByteArray).size = L ⟨#[47, 47, 47]⟩) = x) := ⟨_, rfl⟩
                  obtain ⟨p2, HP2⟩ : ∃ x, Hid (decide ((L fr).take (⟨#[47, 47]⟩ : ByteArray).size = L ⟨#[47, 47]⟩) = x) := ⟨_, rfl⟩
                  obtain ⟨au, HAU⟩ : ∃ x, Hid (((!decide (L lo = []) || (!rq && !th)) && p2) = x) := ⟨_, rfl⟩
                  have HR2 : Hid ((if au = true then restAuth { V.zero with scheme := lo, forceQuery := fq, rawQuery := qu } ((L fr).drop 2) else restBare { V.zero with scheme := lo, forceQuery := fq, rawQuery := qu } (L fr)) = some o) := by
                    have := HR.out
                    rw [rest_eq] at this
                    have e : (au = true) = ((L ({ V.zero with scheme := lo, forceQuery := fq, rawQuery := qu } : V).scheme ≠ [] ∨ rq = false ∧ (L fr).take 3 ≠ [47, 47, 47]) ∧ (L fr).take 2 = [47, 47]) := by
                      rw [← HAU.out, ← HTH.out, ← HP2.out]
                      simp only [Bool.and_eq_true, Bool.or_eq_true, Bool.not_eq_true', decide_eq_true_eq, decide_eq_false_iff_not]
                      rfl
                    simp only [e]
                    exact Lib.hid this
                  clear HR
                  go_cut [116] (fun t wx => t = .bool au ∧ wx = W6)
                  case first =>
                    as_aux_lemma =>
                    have c0 := S6.out.cell 0 _ (by decide) rfl
                    by_cases hlo : L lo = []
                    · have h1 : lo.toList = [] := by rw [U.toList_L]; exact hlo
                      have ha : au = ((!rq && !th) && p2) := by rw [← HAU.out, decide_eq_true hlo]; rfl
                      subst ha
                      clear hlo HAU
                      cases rq
                      · go_wp2_with fail
                        refine (i_prefix fr _ th _ HTH).mono ?_
                        rintro e w1 ⟨rfl, rfl⟩
                        cases th
                        · go_wp2_with fail
                          refine (i_prefix fr _ p2 _ HP2).mono ?_
                          rintro e w1 ⟨rfl, rfl⟩
                          go_wp2_with fail
                          go_meet
                          exact ⟨rfl, rfl⟩
                        · go_wp2_with fail
                          go_meet
                          exact ⟨rfl, rfl⟩
                      · go_wp2_with fail
                        go_meet
                        exact ⟨rfl, rfl⟩
                    · have h1 : (lo.toList == []) = false := by rw [U.toList_L]; simpa using hlo
                      have ha : au = p2 := by rw [← HAU.out, decide_eq_false hlo]; rfl
                      subst ha
                      clear hlo HAU
                      go_wp2_with fail
                      refine (i_prefix fr _ au _ HP2).mono ?_
                      rintro e w1 ⟨rfl, rfl⟩
                      go_wp2_with fail
                      go_meet
                      exact ⟨rfl, rfl⟩
                  case rest =>
                    as_aux_lemma =>
                    obtain ⟨rfl, e⟩ := hcut
                    obtain rfl := e.symm
                    have HAZ : Hid (au = true → (2 : Int) ≤ (fr.size : Int)) := by
                      intro h
                      have h2 := HAU.out
                      rw [h, Bool.and_eq_true] at h2
                      have h3 : (L fr).take 2 = [47, 47] := of_decide_eq_true (HP2.out.trans h2.2)
                      have := congrArg List.length h3
                      rw [List.length_take, U.len_L] at this
                      simp at this
                      omega
                    clear HTH HP2 HAU
                    go_upto_if 116 with fail
                    go_cut [6] (fun t wx => ∃ (pa : ByteArray) (v' : V), t = .string pa ∧ Su W wx v' ∧ Sm pa ∧ Hid (finish v' pa = some o))
                    case first =>
                      as_aux_lemma =>
                      cases au
                      · have HR3 : Hid (restBare { V.zero with scheme := lo, forceQuery := fq, rawQuery := qu } (L fr) = some o) := by
                          have := HR2.out
                          rw [if_neg (by decide)] at this
                          exact Lib.hid this
                        clear HR2 HAZ
                        have c0 := S6.out.cell 0 _ (by decide) rfl
                        by_cases hlo : L lo = []
                        · have h1 : lo.toList = [] := by rw [U.toList_L]; exact hlo
                          have HR4 : Hid (finish { V.zero with scheme := lo, forceQuery := fq, rawQuery := qu } fr = some o) := by
                            rw [← HR3.out, restBare, if_neg (by simp [hlo]), U.S_L]; rfl
                          clear HR3 hlo
                          go_wp2_with fail
                          go_meet
                          exact ⟨fr, _, rfl, S6.out, hsf, HR4⟩
                        · have h1 : (lo.toList == []) = false := by rw [U.toList_L]; simpa using hlo
                          have hhd := HHD.out hlo
                          have HPX : Hid (decide ((L fr).take (one 47).size = L (one 47)) = true) := Lib.hid (decide_eq_true ((head_take _ _).2 hhd))
                          have HR4 : Hid (finish { V.zero with scheme := lo, forceQuery := fq, rawQuery := qu, omitHost := true } fr = some o) := by
                            rw [← HR3.out, restBare, if_pos ⟨hlo, fun e => by rw [e] at hhd; exact absurd hhd (by simp)⟩, U.S_L]; rfl
                          clear HR3 hlo hhd
                          have S7 := Lib.hid (S6.out.set (v' := { V.zero with scheme := lo, forceQuery := fq, rawQuery := qu, omitHost := true }) 10 (.bool true) (fun _ => rfl))
                          have c10 := S6.out.cell 10 _ (by decide) rfl
                          have f10 := S6.out.free 10
                          go_wp2_with fail
                          refine (i_prefix fr _ true _ HPX).mono ?_
                          rintro e w1 ⟨rfl, rfl⟩
                          go_wp2_with fail
                          go_meet
                          exact ⟨fr, _, rfl, S7.out, hsf, HR4⟩
                      · have HR3 : Hid (restAuth { V.zero with scheme := lo, forceQuery := fq, rawQuery := qu } ((L fr).drop 2) = some o) := by
                          have := HR2.out
                          rw [if_pos rfl] at this
                          exact Lib.hid this
                        have hz2 := HAZ.out rfl
                        clear HR2 HAZ
                        obtain ⟨A, HA⟩ : ∃ x, Hid (fr.extract 2 fr.size = x) := ⟨_, rfl⟩
                        have hLA := drop_L HA.out
                        have HR4 : Hid (restAuth { V.zero with scheme := lo, forceQuery := fq, rawQuery := qu } (L A) = some o) := by
                          rw [← hLA]
                          exact HR3
                        have hAz : A.size ≤ fr.size := by rw [← U.len_L, ← hLA, ← U.len_L]; simp
                        have hsA : Sm A := by unfold Sm at *; omega
                        clear HR3 hLA
                        go_upto_region 31 with fail
                        rw [HA.out]
                        clear HA
                        obtain ⟨at_, HAT⟩ : ∃ x, Hid ((U.cut 47 (L A)).1 = L x) := ⟨S _, rfl⟩
                        obtain ⟨pa, HPA⟩ : ∃ x, Hid ((L A).drop (U.cut 47 (L A)).1.length = L x) := ⟨S _, rfl⟩
                        have hat : at_.size ≤ A.size := by have := U.cut_len1 47 (L A); rw [HAT.out, U.len_L, U.len_L] at this; exact this
                        have hpa : pa.size ≤ A.size := by
                          have := congrArg List.length HPA.out
                          rw [List.length_drop, U.len_L, U.len_L] at this
                          omega
                        have HR5 : Hid (authFin { V.zero with scheme := lo, forceQuery := fq, rawQuery := qu } pa (U.authority (L at_)) = some o) := by
                          have := HR4.out
                          unfold restAuth at this
                          rw [HPA.out, HAT.out, U.S_L] at this
                          exact Lib.hid this
                        clear HR4
                        obtain ⟨r, HRR⟩ : ∃ r, Hid ((if U.idx 47 (L A) < A.size then (U.idx 47 (L A) : Int) else -1) = r) := ⟨_, rfl⟩
                        go_wp2_with fail
                        refine (i_index A _ 47 r _ hsA rfl HRR).mono ?_
                        rintro e w1 ⟨rfl, rfl⟩
                        go_upto_if 122 with fail
                        go_cut [12, 6] (fun x y wx => ∃ n, x = .string at_ ∧ y = .string pa ∧ wx = W6.drewN n)
                        case first =>
                          as_aux_lemma =>
                          cases hc : (U.cut 47 (L A)).2.2
                          · obtain ⟨e1, _⟩ := U.cut_none 47 (L A) hc
                            have e2 : at_ = A := U.L_inj (by rw [← HAT.out, e1])
                            have e3 : pa = E := U.L_nil (by rw [← HPA.out, e1, List.drop_length])
                            subst e2 e3
                            have hr : r = -1 := by
                              have h2 : ¬ U.idx 47 (L at_) < (L at_).length := of_decide_eq_false hc
                              rw [U.len_L] at h2
                              rw [← HRR.out, if_neg h2]
                            subst hr
                            clear hc e1 HAT HPA
                            go_wp2_with fail
                            go_meet
                            exact ⟨0, rfl, rfl, rfl⟩
                          · obtain ⟨n, hn⟩ : ∃ n, U.idx 47 (L A) = n := ⟨_, rfl⟩
                            have hlt : n < A.size := by
                              have := of_decide_eq_true hc
                              rwa [hn, U.len_L] at this
                            have HE1 : Hid (A.extract 0 n = at_) := by
                              rw [U.ext_to]
                              refine Lib.hid (U.L_inj ?_)
                              rw [U.L_S, ← HAT.out]
                              simp only [U.cut]
                              rw [hn]
                            have HE2 : Hid (A.extract n A.size = pa) := by
                              rw [U.ext_from]
                              refine Lib.hid (U.L_inj ?_)
                              rw [U.L_S, ← HPA.out, idx_cut, hn]
                            have hr : r = n := by rw [← HRR.out, hn, if_pos hlt]
                            subst hr
                            clear hc hn HAT HPA
                            go_wp2_with fail
                            go_quiet (fail)
                            go_wp2_with fail
                            go_meet
                            exact ⟨_, by rw [HE1.out], by rw [HE2.out], rfl⟩
                        case rest =>
                          as_aux_lemma =>
                          obtain ⟨n7, rfl, rfl, e⟩ := hcut
                          have S7 : Hid (Su W wc { V.zero with scheme := lo, forceQuery := fq, rawQuery := qu }) := by
                            rw [e]
                            exact Lib.hid (S6.out.drewN n7)
                          obtain ⟨W7, hW7⟩ : ∃ x, wc = x := ⟨_, rfl⟩
                          rw [hW7] at S7 ⊢
                          clear hW7 e S6 HAT HPA
                          have c0 := S7.out.cell 0 _ (by decide) rfl
                          cases hau : U.authority (L at_) with
                          | none =>
                            have := HR5.out
                            rw [hau] at this
                            exact absurd this (by simp [authFin])
                          | some oa =>
                            have hAF := HR5.out
                            rw [hau] at hAF
                            have HAF := Lib.hid hAF
                            have CA := Lib.hid (i_parseAuthority lo at_ oa W7 (by unfold Sm; omega) (S7.out.tab HT.out) hau)
                            clear hau hAF HR5
                            go_wp2_with fail
                            refine CA.out.mono ?_
                            cases oa with
                            | none =>
                              rintro e w8 ⟨b8, x, ⟨t, y, rfl⟩, rfl⟩
                              have ho : o = none := by have := HAF.out; simpa [authFin] using this.symm
                              have S8 := S7.out.keep b8
                              obtain ⟨x2, c2⟩ := S8.cell2
                              have c3 := S8.cell 3 _ (by decide) rfl
                              have f2 := fun o => S8.free o
                              have S9 := Lib.hid (S8.auth (.pointer none) E E E false false (.inl ⟨rfl, rfl⟩))
                              have HO2 := Lib.hid ho
                              clear b8 S8 ho
                              go_wp2_with fail
                              go_ret2
                              exact retP_no HO2.out ⟨t, y, rfl⟩ S9.out.b
                            | some hw =>
                              obtain ⟨hh, who⟩ := hw
                              have HFI : Hid (finish { V.zero with scheme := lo, forceQuery := fq, rawQuery := qu, host := S hh, user := S ((who.map (·.1)).getD []), pass := S ((who.map (·.2.1)).getD []), hasUser := who.isSome, hasPass := (who.map (·.2.2)).getD false } pa = some o) := HAF.out
                              have hsp : Sm pa := by unfold Sm at *; omega
                              cases who with
                              | none =>
                                rintro e w8 ⟨b8, rfl⟩
                                have S8 := S7.out.keep b8
                                obtain ⟨x2, c2⟩ := S8.cell2
                                have c3 := S8.cell 3 _ (by decide) rfl
                                have f2 := fun o => S8.free o
                                have S9 := Lib.hid (S8.auth (.pointer none) E E (S hh) false false (.inl ⟨rfl, rfl⟩))
                                clear b8 S8
                                go_wp2_with fail
                                go_meet
                                exact ⟨pa, _, rfl, S9.out, hsp, HFI⟩
                              | some who =>
                                obtain ⟨na, pw, f⟩ := who
                                rintro e w8 ⟨b8, k, rfl, hk, hc⟩
                                have S8 := S7.out.keep b8
                                obtain ⟨x2, c2⟩ := S8.cell2
                                have c3 := S8.cell 3 _ (by decide) rfl
                                have f2 := fun o => S8.free o
                                have S9 := Lib.hid (S8.auth (.pointer (some ⟨k, 0, none⟩)) (S na) (S pw) (S hh) true f (.inr ⟨rfl, k, rfl, hc⟩))
                                clear b8 S8 hc
                                go_wp2_with fail
                                go_meet
                                exact ⟨pa, _, rfl, S9.out, hsp, HFI⟩
                    case rest =>
                      as_aux_lemma =>
                      obtain ⟨pa, v', rfl, s7, hpa, HFI⟩ := hcut
                      have S7 := Lib.hid s7
                      clear s7 S6 HR2 HAZ
                      obtain ⟨W7, hW7⟩ : ∃ x, wc = x := ⟨_, rfl⟩
                      rw [hW7] at S7 ⊢
                      clear hW7
                      go_wp2_with fail
                      refine (i_setPath W7 _ v' pa hpa (S7.out.tab HT.out) S7.out.u).mono ?_
                      rintro e w8 ⟨o8, h8⟩
                      have hF := HFI.out
                      unfold finish at hF
                      cases hb : (U.setPath v' pa).2
                      · rw [hb, if_neg (by decide)] at hF h8
                        obtain ⟨⟨x, ⟨t, y, rfl⟩, rfl⟩, u8⟩ := h8
                        have ho : o = none := by simpa using hF.symm
                        have S8 := Lib.hid (S7.out.only o8 u8)
                        have HO2 := Lib.hid ho
                        clear hF hb o8 u8 ho
                        go_wp2_with fail
                        go_ret2
                        exact retP_no HO2.out ⟨t, y, rfl⟩ S8.out.b
                      · rw [hb, if_pos rfl] at hF h8
                        obtain ⟨rfl, u8⟩ := h8
                        have ho : o = some (U.setPath v' pa).1 := by simpa using hF.symm
                        have S8 := Lib.hid (S7.out.only o8 u8)
                        have HO2 := Lib.hid ho
                        clear hF hb o8 u8 ho
                        go_wp2_with fail
                        go_ret2
                        exact retP_ok HO2.out S8.out
end Go.Proofs.YtphkohpphdcjhaaGreatDoor
