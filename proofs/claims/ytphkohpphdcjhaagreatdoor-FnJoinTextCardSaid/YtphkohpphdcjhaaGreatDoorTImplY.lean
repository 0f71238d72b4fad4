/- The walk of the package's joinPath. -/
import Derived.Test.YtphkohpphdcjhaaGreatDoorTSpecN
import Derived.Test.YtphkohpphdcjhaaGreatDoorTImplU0
import Derived.Test.YtphkohpphdcjhaaGreatDoorTShelfP
set_option linter.unusedVariables false
set_option linter.unusedSimpArgs false
namespace Go.Proofs.YtphkohpphdcjhaaGreatDoor
open Go.RowKit Go.Proofs.YtphkohpphdcjhaaGreatDoorW.PrintWords Go.Proofs.YtphkohpphdcjhaaGreatDoorW.PrintLast
open U (L S)

/-- A row of one text, newly made. -/
theorem lst_one (W w : World) (hb : Below W.heap.size W w) (f : ByteArray) : LstR W [L f] (some ⟨w.heap.size, 0, none⟩) 1 1 (w.alloc (.cells #[.string f] 9)) :=
  ⟨rfl, ⟨rfl, .inr ⟨w.heap.size, 1, #[.string f], rfl, hb.size, heap_alloc_new w _, Nat.le_refl _, by decide, rfl, rfl⟩⟩, hb.alloc hb.size _⟩
theorem LstR.keep {W w w' : World} {l : List U.B} {p : Option Addr} {n cap : Nat} (h : LstR W l p n cap w) (hb : Below w.heap.size w w') : LstR W l p n cap w' :=
  ⟨h.len, h.own.kept (row := none) ⟨hb.os, hb.tape, hb.output, hb.size, fun j hj _ => hb.block j hj⟩ (by cases hv : (Value.slice p n cap).ownBlock <;> simp), h.below.trans (hb.mono h.below.size)⟩
/-- The first text written anew. -/
theorem LstR.set0 {W w : World} {a : U.B} {l : List U.B} {g n cap : Nat} (h : LstR W (a :: l) (some ⟨g, 0, none⟩) n cap w) (x : ByteArray) : LstR W (L x :: l) (some ⟨g, 0, none⟩) n cap (w.setCell ⟨g, 0, none⟩ (.string x)) := by
  have hl := h.len
  rw [List.length_cons] at hl
  obtain ⟨g', cur, hp, h1, h2, h3, h4, h5, h6⟩ := h.block (by omega)
  obtain rfl : g = g' := by simpa using hp
  refine ⟨by rw [List.length_cons]; exact hl, ⟨by rw [strs, List.length_map, List.length_cons, hl, Nat.mul_one], .inr ⟨g, cap, cur.setIfInBounds 0 (.string x), rfl, h2, heap_set h1 _, h3, h4, by simp; omega, ?_⟩⟩, h.below.setCell h2 _⟩
  rw [Nat.mul_one]
  obtain ⟨cl⟩ := cur
  cases cl with
  | nil => simp at h5; omega
  | cons c0 cr =>
    obtain ⟨m, rfl⟩ : ∃ m, n = m + 1 := ⟨n - 1, by omega⟩
    simp only [strs, List.map_cons, List.take_succ_cons, List.cons.injEq] at h6
    simp [strs, h6.2]
section
variable {ops : Array Oper} {rest : List Oper} {o : Oper} {a : Act} {Q : Exit → Act → World → Prop}
/-- A list that came in, behind a row of the call's own. -/
theorem lst_list {W w0 : World} {l1 l2 : List U.B} {p p2 : Option Addr} {n m cap cap2 : Nat} (hgd : o.guard = none) (s x : Operand) (ho : o.op = .call { callee := .builtin .append, args := #[s, x], argTypes := #[35, 35] })
    (hs : a.eval s = .slice p n cap) (hD : LstR W l1 p n cap w0) (hn0 : 0 < n) (hA : ArgL w0 l2 p2 m) (ad : Addr) (hp2 : p2 = some ad) (hx : a.eval x = .slice p2 m cap2) (hn : n + m ≤ 1000000)
    (h : ∀ p' cap' w', LstR W (l1 ++ l2) p' (n + m) cap' w' → wpList Tryz.prog ops Q rest (a.put o.dst (.slice p' (n + m) cap')) w') : wpList Tryz.prog ops Q (o :: rest) a w0 := by
  obtain ⟨i0, hi, hz0, hz1, hz2⟩ := info_parts info9'
  subst hp2
  have hl2 := hA.len
  refine wpList_append_own _ hgd s x 35 ho W.heap.size 9 i0 (.string ⟨#[]⟩) 1 16 Tryz.underlying35 hi hz0 hz1 hz2 rfl (by decide) _ n _ hs hD.own ad m cap2 (strs l2) hx (by rw [strs, List.length_map, hl2, Nat.mul_one]) ?_ ?_ (by unfold maxLen; omega) (by omega) hD.below.size ?_
  · intro j u hj
    have hjl : j < l2.length := by
      have := (List.getElem?_eq_some_iff.1 hj).1
      rwa [strs, List.length_map] at this
    rw [strs, List.getElem?_map, List.getElem?_eq_getElem hjl] at hj
    obtain ⟨g, off, hp, hg, hc⟩ := hA.at_ (by omega)
    obtain rfl : ad = ⟨g, off, none⟩ := by simpa using hp
    have he : (⟨g, off, none⟩ : Addr).add j = ⟨g, off + j, none⟩ := by unfold Addr.add; split <;> simp_all
    rw [he, hc j (by omega), List.getD, List.getElem?_eq_getElem hjl]
    simpa using hj
  · intro u hu
    simp only [strs, List.mem_map] at hu
    obtain ⟨e, _, rfl⟩ := hu
    rfl
  · intro v' w' ho' hg' _
    have hb : Below W.heap.size W w' := hD.below.grown hg' hD.below.size (fun k hk => (hD.own.lt k hk).1)
    rcases ho'.2 with ⟨_, h0⟩ | ⟨g', cap', cur, rfl, h2, h3, h4, h5, h6, h7⟩
    · omega
    · exact h _ _ _ ⟨by rw [List.length_append, hD.len, hl2], by rw [strs, List.map_append]; exact ho', hb⟩
end
/-- path.Join over a row of the call's own. -/
theorem i_pathJoin {W w : World} {l : List U.B} {g n cap : Nat} (h : LstR W l (some ⟨g, 0, none⟩) n cap w) (hn : 0 < n) (hlen : Lib.Pa.lens l + n ≤ 281474976710656) :
    Calls Tryz.prog 106 #[.slice (some ⟨g, 0, none⟩) n cap] w fun e w' => e = .returned (.string (S (Lib.Pa.joinL l))) ∧ Below w.heap.size w w' := by
  have hl := h.len
  obtain ⟨g', cur, hp, h1, _⟩ := h.block hn
  obtain rfl : g = g' := by simpa using hp
  have hm : (l.map S).map (fun x => x.data.toList) = l := by
    rw [List.map_map]
    exact List.map_id'' (fun _ => rfl) l
  have := Tryz.path_Join g 0 cap (l.map S) w (fun j x hj => by
    have hjl : j < l.length := by
      have := (List.getElem?_eq_some_iff.1 hj).1
      rwa [List.length_map] at this
    rw [List.getElem?_map, List.getElem?_eq_getElem hjl] at hj
    rw [Nat.zero_add, h.cell j (by omega), List.getD, List.getElem?_eq_getElem hjl]
    simpa using hj) (heap_lt h1) (by rw [hm, List.length_map, hl]; exact hlen)
  rw [hm, List.length_map, hl] at this
  exact this
theorem LstR.free {W w : World} {l : List U.B} {g n cap : Nat} (h : LstR W l (some ⟨g, 0, none⟩) n cap w) (hn : 0 < n) (j : Nat) : w.frozen? ⟨g, j, none⟩ = false := by
  obtain ⟨g', cur, hp, h1, _⟩ := h.block hn
  obtain rfl : g = g' := by simpa using hp
  simp [World.frozen?, h1]
/-- What joinPath hands back. -/
def JoinP (W : World) (u v' : V) (ok : Bool) (e : Ending) (w' : World) : Prop :=
  Below W.heap.size W w' ∧ ∃ k, if ok = true then e = .returned (.tuple #[.pointer (some ⟨k, 0, none⟩), .nilIface]) ∧ IsU w' k v' else (∃ x, IsErr x ∧ e = .returned (.tuple #[.pointer (some ⟨k, 0, none⟩), x])) ∧ IsU w' k u
theorem getD_last (x : U.B) : ∀ l : List U.B, (x :: l).getD l.length [] = l.getLastD x
  | [] => rfl
  | y :: r => by
    have := getD_last y r
    rw [List.length_cons]
    show (y :: r).getD r.length [] = _
    rw [this]
    cases r <;> simp [List.getLastD]

theorem joinAll_len (f : U.B) (l : List U.B) : (U.joinAll f l).length = f.length + 1 + (l.map fun e => e.length + 1).sum := by
  have h : ∀ (l : List U.B) (b : U.B), (l.foldl (fun a e => a ++ 47 :: e) b).length = b.length + (l.map fun e => e.length + 1).sum := by
    intro l
    induction l with
    | nil => intro b; simp
    | cons e l ih =>
      intro b
      rw [List.foldl_cons, ih, List.length_append, List.length_cons, List.map_cons, List.sum_cons]
      omega
  rw [U.joinAll, h, List.length_cons]
theorem lens_le (l : List U.B) (h : ∀ e ∈ l, e.length ≤ 50) : (l.map List.length).sum ≤ 50 * l.length := by
  induction l with
  | nil => simp
  | cons e l ih =>
    have h1 := h e (List.mem_cons_self ..)
    have h2 := ih (fun x hx => h x (List.mem_cons_of_mem _ hx))
    rw [List.map_cons, List.sum_cons, List.length_cons]
    omega
theorem sum_le (l : List U.B) (h : ∀ e ∈ l, e.length ≤ 50) : (l.map fun e => e.length + 1).sum ≤ 51 * l.length := by
  induction l with
  | nil => simp
  | cons e l ih =>
    have h1 := h e (List.mem_cons_self ..)
    have h2 := ih (fun x hx => h x (List.mem_cons_of_mem _ hx))
    rw [List.map_cons, List.sum_cons, List.length_cons]
    omega

set_option maxRecDepth 100000 in
set_option maxHeartbeats 12800000 in
theorem i_joinPath (W : World) (g : Nat) (u : V) (l : List U.B) (p : Option Addr) (n cap : Nat) (hu : u.Sm 4000) (hn : n ≤ 10) (hle : ∀ e ∈ l, e.length ≤ 50) (hL : ArgL W l p n) (hnil : p = none → n = 0 ∧ cap = 0) (hT : Tab W) (hg : IsU W g u) :
    Calls Tryz.prog 86 #[.pointer (some ⟨g, 0, none⟩), .slice p n cap] W (JoinP W u (U.join u l).1 (U.join u l).2) := by
  obtain ⟨v', HV'⟩ : ∃ o, Hid ((U.join u l).1 = o) := ⟨_, Lib.hid rfl⟩
  obtain ⟨ok, HOK⟩ : ∃ o, Hid ((U.join u l).2 = o) := ⟨_, Lib.hid rfl⟩
  rw [HV'.out, HOK.out]
  obtain ⟨f, HF⟩ : ∃ x, Hid (S (U.escPath u) = x) := ⟨_, Lib.hid rfl⟩
  have hfs : f.size ≤ 12000 := by
    have h1 := U.escPath_len u
    have h2 := hu.path
    rw [U.len_L] at h1
    rw [← HF.out, U.size_S]
    omega
  have HJ : Hid (U.setPath u (S (U.joinPath (L f) l)) = (v', ok)) := by
    rw [← HV'.out, ← HOK.out, ← HF.out]
    exact Lib.hid rfl
  have HU := Lib.hid hg
  have HT := Lib.hid hT
  have HL := Lib.hid hL
  have HLE := Lib.hid hle
  have CE := Lib.hid (i_escPath W g u (hu.mono (by decide)) hT hg)
  rw [HF.out] at CE
  obtain ⟨i0, hi, hz0, hz1, hz2⟩ := info_parts info9'
  have HI := Lib.hid hi
  clear HV' HOK hg hT hL hle hu hz0 hz1 hz2 hi
  go_enter Tryz.func86, Tryz.ntmps86
  go_upto_region 1 with fail
  go_cut [1] (fun t wx => ∃ g2 cap2, t = .slice (some ⟨g2, 0, none⟩) (1 + n) cap2 ∧ Hid (LstR W (L f :: l) (some ⟨g2, 0, none⟩) (1 + n) cap2 wx))
  case first =>
    as_aux_lemma =>
    go_wp2_with fail
    refine CE.out.mono ?_
    rintro e w1 ⟨rfl, b1⟩
    have HD := Lib.hid (lst_one W w1 b1 f)
    have HL1 := Lib.hid ((HL.out.keep b1).keep ((Below.refl w1.heap.size w1).alloc (Nat.le_refl _) (.cells #[.string f] 9)))
    clear b1
    cases p with
    | none =>
      obtain ⟨rfl, rfl⟩ := hnil rfl
      have hl0 : l = [] := List.length_eq_zero_iff.1 HL.out.len
      subst hl0
      go_wp2_with (first | (at_builtin; refine wpList_append_own_none rfl _ _ 35 rfl W.heap.size 9 i0 1 Tryz.underlying35 HI.out _ 1 _ rfl HD.out.own rfl ?_))
      go_meet
      exact ⟨w1.heap.size, 1, rfl, HD⟩
    | some ad =>
      clear hnil
      go_wp2_with (first | (at_builtin; refine lst_list rfl _ _ rfl rfl HD.out (by decide) HL1.out ad rfl rfl (by omega) ?_; intro p3 cap3 w3 hD3))
      have HD3 := Lib.hid hD3
      clear hD3
      obtain ⟨g3, cur, rfl, -⟩ := HD3.out.block (by omega)
      go_wp2_with fail
      go_meet
      exact ⟨g3, cap3, rfl, HD3⟩
  obtain ⟨g2, cap2, rfl, HD⟩ := hcut
  clear CE HI hnil
  obtain ⟨W2, hW2⟩ : ∃ x, wc = x := ⟨_, rfl⟩
  rw [hW2] at HD ⊢
  clear hW2
  obtain ⟨far, HFA⟩ : ∃ x, Hid (decide ((L f).head? = some 47) = x) := ⟨_, Lib.hid rfl⟩
  have HPR : Hid (decide ((L f).take (⟨#[47]⟩ : ByteArray).size = L ⟨#[47]⟩) = far) := by
    rw [← HFA.out]
    refine Lib.hid ?_
    show decide ((L f).take 1 = [47]) = _
    cases h : L f with
    | nil => simp
    | cons c r => simp
  have hc0 := HD.out.cell 0 (by omega)
  have c0 : W2.cell? ⟨g2, 0, none⟩ = some (.string f) := hc0.trans (by rw [show (L f :: l).getD 0 [] = L f from rfl, U.S_L])
  clear hc0
  have hlen := HL.out.len
  have hN : (1 : Int) ≤ ((1 + n : Nat) : Int) := by omega
  go_upto_region 3 with fail
  go_cut [18] (fun t wx => t = .bool (!far) ∧ wx = W2)
  case first =>
    go_wp2_with fail
    refine (i_prefix f _ far W2 HPR).mono ?_
    rintro e w3 ⟨rfl, rfl⟩
    go_wp2_with fail
    go_meet
    exact ⟨rfl, rfl⟩
  obtain ⟨rfl, e⟩ := hcut
  obtain rfl := e.symm
  have hlens : ∀ a : U.B, a.length ≤ 12001 → Lib.Pa.lens (a :: l) + (1 + n) ≤ 281474976710656 := by
    intro a ha
    have h1 := lens_le l HLE.out
    unfold Lib.Pa.lens
    rw [List.map_cons, List.sum_cons]
    omega
  have hcl : (U.clean (U.joinAll (L f) l)).length ≤ 15000 ∧ 1 ≤ (U.clean (U.joinAll (L f) l)).length := by
    refine ⟨?_, clean_ne _⟩
    have h1 := clean_len (U.joinAll (L f) l)
    have h2 := joinAll_len (L f) l
    have h3 := sum_le l HLE.out
    rw [U.len_L] at h2
    omega
  have HLN := Lib.hid hlens
  have HCL := Lib.hid hcl
  clear hlens hcl HPR
  go_upto_if 18 with fail
  go_cut [6] (fun t wx => ∃ (q f' : ByteArray), t = .string q ∧ q.size ≤ 15000 ∧ Hid (L q = if (L f).head? = some 47 then U.clean (U.joinAll (L f) l) else (U.clean (U.joinAll (L f) l)).drop 1) ∧ Hid (L f' = if (L f).head? = some 47 then L f else 47 :: L f) ∧ f'.size ≤ 12001 ∧ Hid (LstR W (L f' :: l) (some ⟨g2, 0, none⟩) (1 + n) cap2 wx))
  case first =>
    as_aux_lemma =>
    cases far
    · have hh : (L f).head? ≠ some 47 := of_decide_eq_false HFA.out
      have hlf : L (⟨#[47]⟩ ++ f) = 47 :: L f := by rw [U.app_S, U.L_S]; rfl
      have hsf : (⟨#[47]⟩ ++ f : ByteArray).size ≤ 12001 := by rw [ByteArray.size_append]; show 1 + f.size ≤ _; omega
      have HD1 := Lib.hid (HD.out.set0 (⟨#[47]⟩ ++ f))
      have f0 := HD.out.free (by omega) 0
      have CJ := Lib.hid (i_pathJoin HD1.out (by omega) (HLN.out _ (by rw [U.len_L]; exact hsf)))
      have hjl : Lib.Pa.joinL (L (⟨#[47]⟩ ++ f) :: l) = U.clean (U.joinAll (L f) l) := by rw [hlf]; exact U.joinL_near _ _
      rw [hjl] at CJ
      obtain ⟨c, HC⟩ : ∃ x, Hid (S (U.clean (U.joinAll (L f) l)) = x) := ⟨_, Lib.hid rfl⟩
      rw [HC.out] at CJ
      have hcs : c.size = (U.clean (U.joinAll (L f) l)).length := by rw [← HC.out, U.size_S]
      have hc1 : (1 : Int) ≤ (c.size : Int) := by have := HCL.out.2; omega
      have hc2 : c.size ≤ 15000 := by have := HCL.out.1; omega
      have HH := Lib.hid (show (L f).head? ≠ some 47 ∧ L (⟨#[47]⟩ ++ f) = 47 :: L f ∧ (⟨#[47]⟩ ++ f : ByteArray).size ≤ 12001 from ⟨hh, hlf, hsf⟩)
      clear hh hlf hjl hcs hsf
      go_wp2_with fail
      refine CJ.out.mono ?_
      rintro e w3 ⟨rfl, b3⟩
      have HD3 := Lib.hid (HD1.out.keep b3)
      clear b3 CJ HD1
      go_wp2_with fail
      go_meet
      exact ⟨c.extract 1 c.size, ⟨#[47]⟩ ++ f, rfl, by rw [ByteArray.size_extract]; omega, by rw [if_neg HH.out.1, U.ext_from, U.L_S, ← HC.out]; exact Lib.hid rfl, by rw [if_neg HH.out.1, HH.out.2.1]; exact Lib.hid rfl, HH.out.2.2, HD3⟩
    · have hh : (L f).head? = some 47 := of_decide_eq_true HFA.out
      have CJ := Lib.hid (i_pathJoin HD.out (by omega) (HLN.out _ (by rw [U.len_L]; omega)))
      have hjl : Lib.Pa.joinL (L f :: l) = U.clean (U.joinAll (L f) l) := U.joinL_far _ _ hh
      rw [hjl] at CJ
      obtain ⟨c, HC⟩ : ∃ x, Hid (S (U.clean (U.joinAll (L f) l)) = x) := ⟨_, Lib.hid rfl⟩
      rw [HC.out] at CJ
      have hcs : c.size = (U.clean (U.joinAll (L f) l)).length := by rw [← HC.out, U.size_S]
      have hc2 : c.size ≤ 15000 := by have := HCL.out.1; omega
      have HH := Lib.hid hh
      clear hh hjl hcs
      go_wp2_with fail
      refine CJ.out.mono ?_
      rintro e w3 ⟨rfl, b3⟩
      have HD3 := Lib.hid (HD.out.keep b3)
      clear b3 CJ
      go_wp2_with fail
      go_meet
      exact ⟨c, f, rfl, hc2, by rw [if_pos HH.out, ← HC.out]; exact Lib.hid rfl, by rw [if_pos HH.out]; exact Lib.hid rfl, by omega, HD3⟩
  obtain ⟨q, f', rfl, hq, HQ, HF', hf', HD5⟩ := hcut
  obtain ⟨W5, hW5⟩ : ∃ x, wc = x := ⟨_, rfl⟩
  rw [hW5] at HD5 ⊢
  clear hW5 HD c0 HLN HCL HFA
  have hu5 := HU.out.keep HD5.out.below
  have HU5 := Lib.hid hu5
  have HT5 := Lib.hid (HT.out.below HD5.out.below)
  obtain ⟨t, HTT⟩ : ∃ t, Hid (S ((L f' :: l).getD n []) = t) := ⟨_, Lib.hid rfl⟩
  have cn := HD5.out.cell n (by omega)
  rw [HTT.out] at cn
  have hte : L t = U.joinEnd (L f) l := by
    rw [← HTT.out, U.L_S, ← hlen, getD_last, HF'.out]
    rfl
  have hts : t.size ≤ 12001 := by
    rw [← HTT.out, U.size_S]
    cases n with
    | zero =>
      show (L f').length ≤ _
      rw [U.len_L]
      exact hf'
    | succ n =>
      show (l.getD n []).length ≤ _
      rw [List.getD, List.getElem?_eq_getElem (by omega)]
      exact Nat.le_trans (HLE.out _ (List.getElem_mem (by omega))) (by decide)
  obtain ⟨b1, HB1⟩ : ∃ x, Hid (decide ((L t).getLast? = some 47) = x) := ⟨_, Lib.hid rfl⟩
  obtain ⟨b2, HB2⟩ : ∃ x, Hid (decide ((L q).getLast? = some 47) = x) := ⟨_, Lib.hid rfl⟩
  have HTE := Lib.hid hte
  have hst : Sm t := by unfold Sm; omega
  have hsq : Sm q := by unfold Sm; omega
  have HSM := Lib.hid (show Sm t ∧ Sm q from ⟨hst, hsq⟩)
  have hn2 : (((1 + n : Nat) : Int) - 1).toNat = n := by omega
  clear hu5 hte hst hsq hts
  go_upto_region 7 with fail
  go_cut [41] (fun t wx => t = .bool (b1 && !b2) ∧ wx = W5)
  case first =>
    as_aux_lemma =>
    go_wp2_with fail
    refine (i_suffix1 t 47 _ b1 W5 HSM.out.1 rfl HB1).mono ?_
    rintro e w6 ⟨rfl, rfl⟩
    cases b1
    · go_wp2_with fail
      go_meet
      exact ⟨rfl, rfl⟩
    · go_wp2_with fail
      refine (i_suffix1 q 47 _ b2 W5 HSM.out.2 rfl HB2).mono ?_
      rintro e w7 ⟨rfl, rfl⟩
      go_wp2_with fail
      go_meet
      exact ⟨rfl, rfl⟩
  obtain ⟨rfl, e⟩ := hcut
  obtain rfl := e.symm
  have HJP : Hid (U.joinPath (L f) l = if (L t).getLast? = some 47 ∧ (L q).getLast? ≠ some 47 then L q ++ [47] else L q) := by
    rw [HTE.out, HQ.out]
    exact Lib.hid rfl
  obtain ⟨cc, HCC⟩ : ∃ x, Hid ((b1 && !b2) = x) := ⟨_, Lib.hid rfl⟩
  rw [HCC.out]
  go_upto_if 41 with fail
  go_cut [6] (fun t wx => ∃ q2 : ByteArray, t = .string q2 ∧ wx = W5 ∧ q2.size ≤ 15001 ∧ Hid (L q2 = U.joinPath (L f) l))
  case first =>
    as_aux_lemma =>
    cases cc
    · have hj : U.joinPath (L f) l = L q := by
        rw [HJP.out, if_neg]
        rintro ⟨h1, h2⟩
        have h3 := HCC.out
        rw [← HB1.out, ← HB2.out, decide_eq_true h1, decide_eq_false h2] at h3
        exact absurd h3 (by decide)
      have HJ2 := Lib.hid hj
      clear hj
      go_wp2_with fail
      go_meet
      exact ⟨q, rfl, rfl, by omega, by rw [HJ2.out]; exact Lib.hid rfl⟩
    · have hj : U.joinPath (L f) l = L q ++ [47] := by
        rw [HJP.out, if_pos]
        have h3 := HCC.out
        rw [← HB1.out, ← HB2.out] at h3
        simpa using h3
      have HJ2 := Lib.hid hj
      clear hj
      go_wp2_with fail
      go_meet
      exact ⟨_, rfl, rfl, by rw [ByteArray.size_append]; show q.size + 1 ≤ _; omega, by rw [HJ2.out, U.app_S, U.L_S]; exact Lib.hid rfl⟩
  obtain ⟨q2, rfl, e, hq2, HQ2⟩ := hcut
  obtain rfl := e.symm
  have HJ3 : Hid (U.setPath u q2 = (v', ok)) := by rw [← HJ.out, ← HQ2.out]; exact Lib.hid rfl
  have hs2 : Sm q2 := by unfold Sm; omega
  have HS2 := Lib.hid hs2
  have B5 := Lib.hid HD5.out.below
  obtain ⟨ur, k1, k2⟩ := HU5.out
  have hu1 : ur.oneCell' = true := by rcases k2 with ⟨_, rfl⟩ | ⟨_, k, rfl, _⟩ <;> rfl
  have K1 := Lib.hid k1
  have K2 := Lib.hid k2
  clear hs2 HJ HJP HQ HQ2 HCC HB1 HB2 HTE HSM cn HTT HF' HD5 k1 k2 HLE HL hlen hN hn2
  go_upto_region 10 with (first | (refine wpl_loadU rfl _ rfl _ _ _ rfl K1.out ?_) | (refine wpl_storeU rfl _ _ rfl _ _ _ _ rfl rfl (heap_new _ _ _ rfl) rfl hu1 ?_; intro W6 hN6 ho))
  go_frame
  have hB6 : Below W5.heap.size W5 W6 := new_below ho
  have I6 : Hid (IsU W6 W5.heap.size u) := Lib.hid ⟨ur, hN6, K2.out.keep hB6⟩
  have B6 := Lib.hid (B5.out.trans (hB6.mono B5.out.size))
  have T6 := Lib.hid (HT5.out.below hB6)
  have HW5 := Lib.hid (show W.heap.size ≤ W5.heap.size from B5.out.size)
  obtain ⟨g6, hg6⟩ : ∃ x, W5.heap.size = x := ⟨_, rfl⟩
  rw [hg6] at I6 HW5 ⊢
  clear hg6 hB6 hN6 ho K1 K2 hu1 HU5 HT5 B5
  go_wp2_with fail
  refine (i_setPath W6 g6 u q2 HS2.out T6.out I6.out).mono ?_
  rw [HJ3.out]
  rintro e w7 ⟨o7, h7⟩
  have B7 : Hid (Below W.heap.size W w7) := Lib.hid (Only.below B6.out o7 B6.out.size HW5.out)
  cases ok
  · rw [if_neg (show ¬ ((v', false).2 = true) by simp)] at h7
    obtain ⟨⟨x, ⟨ty, y, rfl⟩, rfl⟩, i7⟩ := h7
    have I7 := Lib.hid i7
    clear i7 o7
    go_wp2_with fail
    go_ret2
    exact ⟨B7.out, g6, by rw [if_neg (by decide)]; exact ⟨⟨_, ⟨_, _, rfl⟩, rfl⟩, I7.out⟩⟩
  · rw [if_pos (show (v', true).2 = true from rfl)] at h7
    obtain ⟨rfl, i7⟩ := h7
    have I7 := Lib.hid i7
    clear i7 o7
    go_wp2_with fail
    go_ret2
    exact ⟨B7.out, g6, by rw [if_pos rfl]; exact ⟨rfl, I7.out⟩⟩
end Go.Proofs.YtphkohpphdcjhaaGreatDoor
