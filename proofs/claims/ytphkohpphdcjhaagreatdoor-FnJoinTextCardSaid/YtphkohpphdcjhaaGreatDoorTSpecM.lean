/- The walk of the reference's clean: a path without elements that are empty, . or .. -/
import Derived.Test.YtphkohpphdcjhaaGreatDoorTSpecK
import Derived.Test.YtphkohpphdcjhaaGreatDoorTK1
set_option linter.unusedVariables false
set_option linter.unusedSimpArgs false
namespace Go.Proofs.YtphkohpphdcjhaaGreatDoor
open Go.RowKit Go.Proofs.YtphkohpphdcjhaaGreatDoorW.PrintWords
open U (L S)

/-- Texts as cells. -/
def strs (l : List U.B) : List Value := l.map fun e => .string (S e)
/-- A row of the call's own holds the texts l. -/
structure LstR (W : World) (l : List U.B) (p : Option Addr) (n cap : Nat) (w : World) : Prop where
  len : l.length = n
  own : w.ownsRow W.heap.size 9 1 (.slice p n cap) n (strs l)
  below : Below W.heap.size W w
theorem LstR.drawn {W w w' : World} {l : List U.B} {p : Option Addr} {n cap : Nat} (h : LstR W l p n cap w) (d : Drawn0 w w') : LstR W l p n cap w' := by
  obtain ⟨k, rfl⟩ := d
  exact ⟨h.len, h.own, below_n h.below k⟩
theorem LstR.block {W w : World} {l : List U.B} {p : Option Addr} {n cap : Nat} (h : LstR W l p n cap w) (hn : 0 < n) :
    ∃ g cur, p = some ⟨g, 0, none⟩ ∧ w.heap[g]? = some (.cells cur 9 (0, 0)) ∧ W.heap.size ≤ g ∧ n ≤ cap ∧ cap ≤ maxLen ∧ cur.size = cap ∧ cur.toList.take n = strs l := by
  rcases h.own.2 with ⟨h1, h2⟩ | ⟨g', cap', cur, h1, h2, h3, h4, h5, h6, h7⟩
  · omega
  · simp only [Value.slice.injEq, true_and] at h1
    obtain ⟨rfl, rfl⟩ := h1
    exact ⟨g', cur, rfl, h3, h2, h4, h5, by omega, by simpa using h7⟩
theorem LstR.pop {W w : World} {l : List U.B} {p : Option Addr} {n cap : Nat} (h : LstR W l p (n + 1) cap w) : LstR W l.dropLast p n cap w := by
  obtain ⟨g, cur, rfl, h1, h2, h3, h4, h5, h6⟩ := h.block (by omega)
  have hl := h.len
  have hd : l.dropLast = l.take n := by rw [List.dropLast_eq_take, hl]; rfl
  have hlt : l.dropLast.length = n := by rw [List.length_dropLast, hl]; rfl
  refine ⟨hlt, ⟨by rw [strs, List.length_map, hlt, Nat.mul_one], .inr ⟨g, cap, cur, rfl, h2, h1, by omega, h4, by omega, ?_⟩⟩, h.below⟩
  rw [Nat.mul_one]
  have : cur.toList.take n = (cur.toList.take (n + 1)).take n := by rw [List.take_take, Nat.min_eq_left (by omega)]
  rw [this, h6, hd, strs, strs, List.map_take]
theorem LstR.cell {W w : World} {l : List U.B} {g n cap : Nat} (h : LstR W l (some ⟨g, 0, none⟩) n cap w) (j : Nat) (hj : j < n) : w.cell? ⟨g, j, none⟩ = some (.string (S (l.getD j []))) := by
  obtain ⟨g', cur, hp, h1, h2, h3, h4, h5, h6⟩ := h.block (by omega)
  obtain rfl : g = g' := by simpa using hp
  have hl := h.len
  have e := congrArg (fun x => x[j]?) h6
  simp only [List.getElem?_take, hj, if_true, strs, List.getElem?_map] at e
  rw [List.getElem?_eq_getElem (show j < l.length by omega)] at e
  simp only [World.cell?, h1]
  rw [List.getD, List.getElem?_eq_getElem (show j < l.length by omega)]
  simpa using e
theorem lst_new (W w : World) (hb : Below W.heap.size W w) : LstR W [] (some ⟨w.heap.size, 0, none⟩) 0 0 (w.alloc (.cells #[] 9)) :=
  ⟨rfl, World.ownsRow_made w #[] 0 hb.size (by decide) rfl, hb.alloc hb.size _⟩
theorem info9' : (Tryz.prog.info? 9).map (fun i => (i.zero, i.size, i.bytes)) = some (some (.string ⟨#[]⟩), 1, 16) := by kernel_rfl
section
variable {ops : Array Oper} {rest : List Oper} {o : Oper} {a : Act} {Q : Exit → Act → World → Prop}
theorem lst_push {W w0 : World} {l : List U.B} {p : Option Addr} {n cap : Nat} (hgd : o.guard = none) (s x : Operand) (ho : o.op = .call { callee := .builtin .append, args := #[s, x], argTypes := #[35, 35] })
    (hs : a.eval s = .slice p n cap) (hD : LstR W l p n cap w0) (t : ByteArray) (hx : a.eval x = .slice (some ⟨w0.heap.size, 0, none⟩) 1 1) (hn : n ≤ 1000000)
    (h : ∀ p' cap' w', LstR W (l ++ [L t]) p' (n + 1) cap' w' → wpList Tryz.prog ops Q rest (a.put o.dst (.slice p' (n + 1) cap')) w') : wpList Tryz.prog ops Q (o :: rest) a (w0.alloc (.cells #[.string t] 9)) := by
  obtain ⟨i0, hi, hz0, hz1, hz2⟩ := info_parts info9'
  have hD' : LstR W l p n cap (w0.alloc (.cells #[.string t] 9)) := ⟨hD.len, hD.own.alloc _, hD.below.alloc hD.below.size _⟩
  refine wpList_append_own _ hgd s x 35 ho W.heap.size 9 i0 (.string ⟨#[]⟩) 1 16 Tryz.underlying35 hi hz0 hz1 hz2 rfl (by decide) _ n _ hs hD'.own ⟨w0.heap.size, 0, none⟩ 1 1 [.string t] hx rfl ?_ ?_ (by unfold maxLen; omega) (by omega) hD'.below.size ?_
  · intro j u hj
    match j, hj with
    | 0, hj => simp at hj; subst hj; simp [Addr.add]
    | (j + 1), hj => simp at hj
  · intro u hu; simp at hu; subst hu; rfl
  · intro v' w' ho' hg _
    have hst : strs (l ++ [L t]) = strs l ++ [.string t] := by rw [strs, List.map_append]; simp [strs]
    have hb : Below W.heap.size W w' := hD'.below.grown hg hD'.below.size (fun k hk => (hD'.own.lt k hk).1)
    rcases ho'.2 with ⟨_, h0⟩ | ⟨g', cap', cur, rfl, h2, h3, h4, h5, h6, h7⟩
    · omega
    · exact h _ _ _ ⟨by rw [List.length_append, hD.len]; rfl, by rw [hst]; exact ho', hb⟩
end
/-- Where the elements' loop stands. -/
def Cleans (r : List U.B) (st : List U.B) (l : U.B) (m : Bool) : Prop := r = if m = true then (U.els l).foldl U.cStep st else st
theorem Cleans.step {r st : List U.B} {l : U.B} (h : Cleans r st l true) (a b : U.B) (m : Bool) (hc : U.cut 47 l = (a, b, m)) : Cleans r (U.cStep st a) b m := by
  unfold Cleans at *
  rw [if_pos rfl, U.els_cut, hc] at h
  cases m
  · rw [if_neg (show ¬ ((a, b, false).2.2 = true) by simp)] at h
    rw [if_neg (by decide)]
    have := (U.cut_none 47 l (by rw [hc])).1
    rw [hc] at this
    simp only at this
    rw [h, this]
    rfl
  · rw [if_pos (show (a, b, true).2.2 = true from rfl)] at h
    rw [if_pos rfl, h]
    rfl
theorem cstep_len (st : List U.B) (e : U.B) : (U.slashed (U.cStep st e)).length ≤ (U.slashed st).length + e.length + 1 := by
  unfold U.cStep
  split
  · omega
  · split
    · have : (U.slashed st.dropLast).length ≤ (U.slashed st).length := by
        rcases List.eq_nil_or_concat st with rfl | ⟨l, x, rfl⟩
        · exact Nat.le_refl _
        · rw [List.concat_eq_append, List.dropLast_concat, U.slashed, U.slashed, List.flatMap_append, List.length_append]
          omega
      omega
    · rw [U.slashed, List.flatMap_append, List.length_append]
      show _ + ([e].flatMap fun e => 47 :: e).length ≤ _
      have h1 : ([e].flatMap fun e => 47 :: e).length = e.length + 1 := by simp
      have h2 : (U.slashed st).length = (st.flatMap fun e => 47 :: e).length := rfl
      omega
theorem ce_ways (e : ByteArray) : (L e = [] ∧ e.toList = [] ) ∨ (L e = [46] ∧ e.toList = [46]) ∨ (L e = [46, 46] ∧ e.toList = [46, 46]) ∨
    (L e ≠ [] ∧ L e ≠ [46] ∧ L e ≠ [46, 46] ∧ (e.toList == []) = false ∧ (e.toList == [46]) = false ∧ (e.toList == [46, 46]) = false) := by
  rw [U.toList_L]
  by_cases h0 : L e = []
  · exact .inl ⟨h0, h0⟩
  by_cases h : L e = [46]
  · exact .inr (.inl ⟨h, h⟩)
  by_cases h2 : L e = [46, 46]
  · exact .inr (.inr (.inl ⟨h2, h2⟩))
  exact .inr (.inr (.inr ⟨h0, h, h2, by simpa using h0, by simpa using h, by simpa using h2⟩))
/-- The sum of the texts so far. -/
theorem slashed_take (l : List U.B) (k : Nat) (h : k < l.length) : U.slashed (l.take (k + 1)) = U.slashed (l.take k) ++ 47 :: l.getD k [] := by
  rw [U.take_at l k h, U.slashed, List.flatMap_append, List.getD, List.getElem?_eq_getElem h]
  simp [U.slashed]

theorem slashed_len (l : List U.B) (k : Nat) : (U.slashed (l.take k)).length ≤ (U.slashed l).length := by
  have : U.slashed l = U.slashed (l.take k) ++ U.slashed (l.drop k) := by
    rw [U.slashed, U.slashed, U.slashed, ← List.flatMap_append, List.take_append_drop]
  rw [this, List.length_append]
  omega

set_option maxRecDepth 100000 in
set_option maxHeartbeats 6400000 in
theorem c_clean (s : ByteArray) (W : World) (hs : s.size ≤ 100000) :
    Calls Tryz.prog 55 #[.string s] W fun e w' => e = .returned (.string (S (U.clean (L s)))) ∧ Below W.heap.size W w' := by
  obtain ⟨o, HO⟩ : ∃ o, Hid (S (U.clean (L s)) = o) := ⟨_, Lib.hid rfl⟩
  rw [HO.out]
  obtain ⟨R, HR⟩ : ∃ R, Hid ((U.els (L s)).foldl U.cStep [] = R) := ⟨_, Lib.hid rfl⟩
  have HO2 : Hid (o = S (if U.slashed R = [] then [47] else U.slashed R)) := by
    rw [← HO.out, ← HR.out]
    exact Lib.hid rfl
  have HC0 : Hid (Cleans R [] (L s) true) := Lib.hid (by unfold Cleans; rw [if_pos rfl]; exact HR.out.symm)
  have HL0 := Lib.hid (lst_new W W (Below.refl _ _))
  clear HO HR
  go_enter Tryz.func55, Tryz.ntmps55
  go_upto_region 2 with fail
  change Code.wp _ _ _ _ (W.alloc (.cells #[] 9))
  obtain ⟨w0, hw0⟩ : ∃ x, W.alloc (.cells #[] 9) = x := ⟨_, rfl⟩
  rw [hw0] at HL0 ⊢
  clear hw0
  obtain ⟨g0, hg0⟩ : ∃ x, W.heap.size = x := ⟨_, rfl⟩
  rw [hg0] at HL0 ⊢
  clear hg0
  go_loopw [3, 4, 5] (fun ls l m w' => ∃ (st : List U.B) (p : Option Addr) (n cap : Nat) (l' : ByteArray) (m' : Bool), ls = .slice p n cap ∧ l = .string l' ∧ m = .bool m' ∧ n + l'.size + szOf m ≤ 100002 ∧ (U.slashed st).length + l'.size + szOf m ≤ 100002 ∧ Hid (Cleans R st (L l') m') ∧ Hid (LstR W st p n cap w')) (fun _ l m _ => szOf l + szOf m)
  case atStart => exact ⟨[], _, 0, 0, _, _, rfl, rfl, rfl, by show 0 + s.size + 1 ≤ _; omega, by show 0 + s.size + 1 ≤ _; omega, HC0, HL0⟩
  case round =>
    clear HC0 HL0
    obtain ⟨st, p, n, cap, l1, m1, rfl, rfl, rfl, hsz, hsl, HC, HD⟩ := hrel
    cases m1
    · have hr : R = st := HC.out
      have hs0 : szOf (.bool false) = 0 := rfl
      have hso : (U.slashed st).length ≤ 100002 := by omega
      have hnn : n ≤ 100002 := by omega
      have HST := Lib.hid hr
      clear hr HC hsz hsl hs0
      rw [HST.out] at HO2
      clear HST
      have HSO := Lib.hid hso
      clear hso
      go_wp2_with fail
      go_loop [7, 39] (fun o i => ∃ (k : Nat) (o' : ByteArray), k ≤ n ∧ i = .int .i64 k ∧ o = .string o' ∧ o'.size ≤ 100002 ∧ Hid (L o' = U.slashed (st.take k))) (fun _ i => n - (intOf i).toNat)
      case atStart => exact ⟨0, _, Nat.zero_le _, rfl, rfl, by decide, Lib.hid rfl⟩
      case round =>
        obtain ⟨k, o1, hk, rfl, rfl, hs1, HL⟩ := hrel
        by_cases hlt : k < n
        · obtain ⟨g, cur, rfl, _⟩ := HD.out.block (by omega)
          have c0 := HD.out.cell k hlt
          obtain ⟨t, HT⟩ : ∃ t, Hid (S (st.getD k []) = t) := ⟨_, Lib.hid rfl⟩
          rw [HT.out] at c0
          have hl : L (o1 ++ (⟨#[47]⟩ ++ t)) = U.slashed (st.take (k + 1)) := by
            rw [slashed_take st k (by rw [HD.out.len]; exact hlt), ← HL.out, U.app_S, U.L_S, U.app_S, U.L_S, ← HT.out]
            rfl
          have hz : (o1 ++ (⟨#[47]⟩ ++ t)).size ≤ 100002 := by
            rw [← U.len_L, hl]
            exact Nat.le_trans (slashed_len st (k + 1)) HSO.out
          have ht : t.size ≤ 100002 := by
            rw [ByteArray.size_append, ByteArray.size_append] at hz
            omega
          have HLN := Lib.hid hl
          have HZ := Lib.hid hz
          clear hl hz HL
          go_wp2_with fail
          go_round
          case rel => exact ⟨k + 1, _, by omega, by go_num, rfl, HZ.out, HLN⟩
          case measure => simp [intOf]; omega
        · have hkn : k = n := by omega
          have hst : st.take k = st := List.take_of_length_le (by rw [HD.out.len]; omega)
          rw [hst] at HL
          have HO3 : Hid (o = S (if L o1 = [] then [47] else L o1)) := by rw [HL.out]; exact HO2
          clear hst HL
          rcases empty_ways o1 with ⟨e1, e2⟩ | ⟨e1, e2⟩
          · rw [if_pos e1] at HO3
            clear e1
            go_wp2_with fail
            go_ret
            exact ⟨by rw [HO3.out] <;> rfl, HD.out.below⟩
          · rw [if_neg e1] at HO3
            clear e1
            go_wp2_with fail
            go_ret
            exact ⟨by rw [HO3.out, U.S_L] <;> rfl, HD.out.below⟩
    · obtain ⟨a1, H1⟩ : ∃ x, (U.cut 47 (L l1)).1 = L x := ⟨S _, rfl⟩
      obtain ⟨a2, H2⟩ : ∃ x, (U.cut 47 (L l1)).2.1 = L x := ⟨S _, rfl⟩
      obtain ⟨a3, H3⟩ : ∃ x, (U.cut 47 (L l1)).2.2 = x := ⟨_, rfl⟩
      have HCU : Hid (U.cut 47 (L l1) = (L a1, L a2, a3)) := by rw [← H1, ← H2, ← H3]; exact Lib.hid rfl
      clear H1 H2 H3
      have hsum : a1.size + a2.size + szOf (.bool a3) = l1.size := by
        have := cut_sizes HCU.out
        cases a3
        · have := this.2 rfl
          show _ + 0 = _
          omega
        · have := this.1 rfl
          show _ + 1 = _
          omega
      have hs1 : szOf (.bool true) = 1 := rfl
      have HN := Lib.hid (HC.out.step (L a1) (L a2) a3 HCU.out)
      have hcl := cstep_len st (L a1)
      rw [U.len_L] at hcl
      have hms : szOf (.string a2) + szOf (.bool a3) < szOf (.string l1) + szOf (.bool true) := by
        show a2.size + _ < l1.size + 1
        omega
      have HMS := Lib.hid hms
      have HSL : Hid ((U.slashed (U.cStep st (L a1))).length + a2.size + szOf (.bool a3) ≤ 100002) := Lib.hid (by omega)
      clear hms hcl hsl
      go_wp2_with fail
      refine (c_cut l1 a1 a2 47 _ a3 wr (by unfold Sm; omega) rfl HCU).mono ?_
      rintro e w1 ⟨rfl, d1⟩
      have HD1 := Lib.hid (HD.out.drawn d1)
      clear d1 HD HCU HC
      rcases ce_ways a1 with ⟨x1, x2⟩ | ⟨x1, x2⟩ | ⟨x1, x2⟩ | ⟨x0, x1, x2, x3, x4, x5⟩
      · have hst : U.cStep st (L a1) = st := by rw [x1]; rfl
        rw [hst] at HN HSL
        clear x1 hst
        go_wp2_with fail
        go_roundw
        case rel => exact ⟨st, p, n, cap, a2, a3, rfl, rfl, rfl, by omega, HSL.out, HN, HD1⟩
        case measure => exact HMS.out
      · have hst : U.cStep st (L a1) = st := by rw [x1]; rfl
        rw [hst] at HN HSL
        clear x1 hst
        go_wp2_with fail
        go_roundw
        case rel => exact ⟨st, p, n, cap, a2, a3, rfl, rfl, rfl, by omega, HSL.out, HN, HD1⟩
        case measure => exact HMS.out
      · have hst : U.cStep st (L a1) = st.dropLast := by rw [x1]; rfl
        rw [hst] at HN HSL
        clear x1 hst
        cases n with
        | zero =>
          have he : st = [] := List.length_eq_zero_iff.1 HD1.out.len
          rw [he] at HN HSL
          rw [he] at HD1
          clear he
          go_wp2_with fail
          go_roundw
          case rel => exact ⟨[], p, 0, cap, a2, a3, rfl, rfl, rfl, by omega, HSL.out, HN, HD1⟩
          case measure => exact HMS.out
        | succ n =>
          have HD2 := Lib.hid HD1.out.pop
          have hcap : n + 1 ≤ cap := by obtain ⟨_, _, _, _, _, h, _⟩ := HD1.out.block (by omega); exact h
          go_wp2_with fail
          go_roundw
          case rel => exact ⟨st.dropLast, p, n, cap, a2, a3, by first | rfl | simp, rfl, rfl, by omega, HSL.out, HN, HD2⟩
          case measure => exact HMS.out
      · have hst : U.cStep st (L a1) = st ++ [L a1] := by rw [U.cStep, if_neg (by rintro (h | h); exact x0 h; exact x1 h), if_neg x2]
        rw [hst] at HN HSL
        clear x0 x1 x2 hst
        go_wp2_with (first | (at_builtin; refine lst_push rfl _ _ rfl rfl HD1.out a1 rfl (by omega) ?_; intro p2 cap2 w2 hD2))
        have HD2 := Lib.hid hD2
        clear hD2 HD1
        go_wp2_with fail
        go_roundw
        case rel => exact ⟨st ++ [L a1], p2, n + 1, cap2, a2, a3, rfl, rfl, rfl, by omega, HSL.out, HN, HD2⟩
        case measure => exact HMS.out
end Go.Proofs.YtphkohpphdcjhaaGreatDoor
