/- The walk of the reference's Join. -/
import Derived.Test.YtphkohpphdcjhaaGreatDoorTSpecM
import Derived.Test.YtphkohpphdcjhaaGreatDoorTJA
import Derived.Test.YtphkohpphdcjhaaGreatDoorTRegC
set_option linter.unusedVariables false
set_option linter.unusedSimpArgs false
namespace Go.Proofs.YtphkohpphdcjhaaGreatDoor
open Go.RowKit Go.Proofs.YtphkohpphdcjhaaGreatDoorW.PrintWords Go.Proofs.YtphkohpphdcjhaaGreatDoorW.PrintLast
open U (L S)

/-- A list of texts that came in. -/
structure ArgL (W : World) (l : List U.B) (p : Option Addr) (n : Nat) : Prop where
  len : l.length = n
  at_ : 0 < n → ∃ g off, p = some ⟨g, off, none⟩ ∧ g < W.heap.size ∧ ∀ j, j < n → W.cell? ⟨g, off + j, none⟩ = some (.string (S (l.getD j [])))
theorem ArgL.keep {W w : World} {l : List U.B} {p : Option Addr} {n : Nat} (h : ArgL W l p n) (hb : Below W.heap.size W w) : ArgL w l p n :=
  ⟨h.len, fun hn => by
    obtain ⟨g, off, hp, hg, hc⟩ := h.at_ hn
    exact ⟨g, off, hp, Nat.lt_of_lt_of_le hg hb.size, fun j hj => (hb.cell (p := ⟨g, off + j, none⟩) hg).trans (hc j hj)⟩⟩
theorem joinAll_take (f : U.B) (l : List U.B) (k : Nat) (h : k < l.length) : U.joinAll f (l.take (k + 1)) = U.joinAll f (l.take k) ++ 47 :: l.getD k [] := by
  rw [U.take_at l k h, U.joinAll, List.foldl_append, List.getD, List.getElem?_eq_getElem h]
  rfl
theorem joinEnd_take (f : U.B) (l : List U.B) (k : Nat) (h : k < l.length) : U.joinEnd f (l.take (k + 1)) = l.getD k [] := by
  rw [U.take_at l k h, U.joinEnd, List.getD, List.getElem?_eq_getElem h]
  exact List.getLastD_concat ..
theorem clean_len (s : U.B) : (U.clean s).length ≤ s.length + 2 := by
  have h : ∀ (es : List U.B) (st : List U.B), (U.slashed (es.foldl U.cStep st)).length ≤ (U.slashed st).length + (es.map (fun e => e.length + 1)).sum := by
    intro es
    induction es with
    | nil => intro st; simp
    | cons e es ih =>
      intro st
      have h1 := ih (U.cStep st e)
      have h2 := cstep_len st e
      simp only [List.foldl_cons, List.map_cons, List.sum_cons]
      omega
  have h1 := h (U.els s) []
  rw [els_sum] at h1
  unfold U.clean
  split
  · simp
  · simp [U.slashed] at h1 ⊢
    omega
theorem clean_ne (s : U.B) : 1 ≤ (U.clean s).length := by
  unfold U.clean
  split
  · simp
  · rename_i h
    exact List.length_pos_iff.2 h
/-- The last byte. -/
theorem last_ways (s : ByteArray) : (s.toList = [] ∧ L s = []) ∨ ((s.toList == []) = false ∧ L s ≠ [] ∧ (1 : Int) ≤ (s.size : Int) ∧ ∃ hz : s.size - 1 < s.size,
    ((((s[s.size - 1]'hz).toNat : Int) == 47) = true ∧ (L s).getLast? = some 47) ∨ ((((s[s.size - 1]'hz).toNat : Int) == 47) = false ∧ (L s).getLast? ≠ some 47)) := by
  rcases empty_ways s with ⟨h1, h2⟩ | ⟨h1, h2⟩
  · exact .inl ⟨h2, h1⟩
  · have hp : 0 < s.size := by rw [← U.len_L]; exact List.length_pos_iff.2 h1
    refine .inr ⟨h2, h1, by omega, by omega, ?_⟩
    have hl : (L s).getLast? = some (s[s.size - 1]'(by omega)) := by
      rw [List.getLast?_eq_getElem?, U.len_L, List.getElem?_eq_getElem (by rw [U.len_L]; omega)]
      rfl
    by_cases h : s[s.size - 1]'(by omega) = 47
    · exact .inl ⟨by rw [h]; rfl, by rw [hl, h]⟩
    · refine .inr ⟨?_, by rw [hl]; simpa using h⟩
      have : (s[s.size - 1]'(by omega)).toNat ≠ 47 := fun e => h (UInt8.toNat_inj.1 (by simpa using e))
      simp only [beq_eq_false_iff_ne, ne_eq]
      omega

/-- Two references in their blocks, and nothing older turned. -/
def Keeps2' (W : World) (g : Nat) (v : V) (g' : Nat) (v' : V) (w : World) : Prop := IsV w g v ∧ IsV w g' v' ∧ Below W.heap.size W w
theorem Keeps2'.next {W : World} {g g' : Nat} {v v' : V} {w w' : World} (h : Keeps2' W g v g' v' w) (hb : Below w.heap.size w w') : Keeps2' W g v g' v' w' :=
  ⟨h.1.keep hb, h.2.1.keep hb, h.2.2.trans (hb.mono h.2.2.size)⟩

set_option maxRecDepth 100000 in
set_option maxHeartbeats 12800000 in
theorem c_Join (W : World) (u : V) (l : List U.B) (p : Option Addr) (n cap : Nat) (hu : u.Sm 4000) (hn : n ≤ 10) (hl : ∀ e ∈ l, e.length ≤ 50) (hL : ArgL W l p n) :
    Calls Tryz.prog 31 #[u.val, .slice p n cap] W fun e w' => e = .returned (.tuple #[(U.join u l).1.val, .bool (U.join u l).2]) ∧ Below W.heap.size W w' := by
  obtain ⟨o, HO⟩ : ∃ o, Hid (U.join u l = o) := ⟨_, Lib.hid rfl⟩
  rw [HO.out]
  obtain ⟨f, HF⟩ : ∃ x, Hid (S (U.escPath u) = x) := ⟨_, Lib.hid rfl⟩
  have hfs : f.size ≤ 12000 := by
    have h1 := U.escPath_len u
    have h2 := hu.path
    rw [U.len_L] at h1
    rw [← HF.out, U.size_S]
    omega
  have HO2 : Hid (U.setPath u (S (U.joinPath (L f) l)) = o) := by
    rw [← HO.out, ← HF.out]
    exact Lib.hid rfl
  have hB : Below W.heap.size W ((W.alloc (.cells u.cells 23)).alloc (.cells V.zero.cells 23)) := ((Below.refl _ _).alloc (Nat.le_refl _) _).alloc (by simp) _
  have hI : IsV ((W.alloc (.cells u.cells 23)).alloc (.cells V.zero.cells 23)) W.heap.size u := (Below.heap_alloc _ _ _ (by simp)).trans (heap_new _ _ _ rfl)
  have hJ : IsV ((W.alloc (.cells u.cells 23)).alloc (.cells V.zero.cells 23)) (W.heap.size + 1) V.zero := heap_new _ _ _ (by simp)
  have HP : Hid (Sm u.path ∧ Sm u.rawPath) := by
    have h1 := hu.path
    have h2 := hu.rawPath
    exact Lib.hid ⟨by unfold Sm; omega, by unfold Sm; omega⟩
  have HL := Lib.hid hL
  have HLE := Lib.hid hl
  have HK : Hid (Keeps2' W W.heap.size u (W.heap.size + 1) V.zero ((W.alloc (.cells u.cells 23)).alloc (.cells V.zero.cells 23))) := Lib.hid ⟨hI, hJ, hB⟩
  clear HO hB hI hJ hu hl hL
  go_enter Tryz.func31, Tryz.ntmps31
  go_upto_region 1 with fail
  change Code.wp _ _ _ _ ((W.alloc (.cells u.cells 23)).alloc (.cells V.zero.cells 23))
  obtain ⟨W1, hW1⟩ : ∃ x, (W.alloc (.cells u.cells 23)).alloc (.cells V.zero.cells 23) = x := ⟨_, rfl⟩
  rw [hW1] at HK ⊢
  clear hW1
  obtain ⟨g', hg'⟩ : ∃ g, W.heap.size + 1 = g := ⟨_, rfl⟩
  obtain ⟨g, hg⟩ : ∃ g, W.heap.size = g := ⟨_, rfl⟩
  have K1 : Hid (Keeps2' W g u g' V.zero W1) := by rw [← hg', ← hg]; exact HK
  have HG : Hid (g ≠ g' ∧ W.heap.size ≤ g) := Lib.hid ⟨by omega, by omega⟩
  have HG2 : Hid (W.heap.size ≤ g') := Lib.hid (by omega)
  rw [hg', hg]
  clear hg' hg HK
  have CE := Lib.hid (c_escPath W1 u HP.out)
  rw [HF.out] at CE
  go_wp2_with (refine wpl_loadV rfl _ rfl _ _ rfl K1.out.1 ?_)
  refine CE.out.mono ?_
  rintro e w2 ⟨rfl, b2⟩
  have K2 := Lib.hid (K1.out.next b2)
  have HL2 := Lib.hid (HL.out.keep K2.out.2.2)
  clear b2 CE K1 HL HF
  obtain ⟨far, HFA⟩ : ∃ x, Hid (decide ((L f).head? = some 47) = x) := ⟨_, Lib.hid rfl⟩
  have e47 : ((47 : UInt8).toNat : Int) = 47 := rfl
  go_upto_region 2 with fail
  go_cut [7] (fun t wx => t = .bool far ∧ wx = w2)
  case first =>
    rcases head_ways f 47 with ⟨h1, h2⟩ | ⟨h1, hz, ⟨h2, h3⟩ | ⟨h2, h3⟩⟩
    · have : far = false := by rw [← HFA.out]; exact decide_eq_false h2
      subst this
      clear h2
      go_wp2_with fail
      go_meet
      exact ⟨rfl, rfl⟩
    · have : far = false := by rw [← HFA.out]; exact decide_eq_false h3
      subst this
      have h2' : (((f[0]'hz).toNat : Int) == 47) = false := by rw [e47] at h2; simpa using h2
      clear h3 h2
      go_wp2_with fail
      go_meet
      exact ⟨rfl, rfl⟩
    · have : far = true := by rw [← HFA.out]; exact decide_eq_true h3
      subst this
      have h2' : (((f[0]'hz).toNat : Int) == 47) = true := by rw [e47] at h2; simpa using h2
      clear h3 h2
      go_wp2_with fail
      go_meet
      exact ⟨rfl, rfl⟩
  obtain ⟨rfl, e⟩ := hcut
  obtain rfl := e.symm
  clear e47
  go_upto_if 27 with fail
  go_cut [9] (fun t wx => ∃ e0 : ByteArray, t = .string e0 ∧ wx = w2 ∧ e0.size ≤ 12001 ∧ Hid (L e0 = U.joinEnd (L f) []))
  case first =>
    cases far
    · have hh : (L f).head? ≠ some 47 := of_decide_eq_false HFA.out
      have hj : U.joinEnd (L f) [] = 47 :: L f := by rw [U.joinEnd]; exact if_neg hh
      have HJ := Lib.hid hj
      clear hh hj
      go_wp2_with fail
      go_meet
      exact ⟨_, rfl, rfl, by rw [ByteArray.size_append]; show 1 + f.size ≤ _; omega, by rw [HJ.out, U.app_S, U.L_S]; exact Lib.hid rfl⟩
    · have hh : (L f).head? = some 47 := of_decide_eq_true HFA.out
      have hj : U.joinEnd (L f) [] = L f := by rw [U.joinEnd]; exact if_pos hh
      have HJ := Lib.hid hj
      clear hh hj
      go_wp2_with fail
      go_meet
      exact ⟨f, rfl, rfl, by omega, by rw [HJ.out]; exact Lib.hid rfl⟩
  obtain ⟨e0, rfl, e, he0, HE0⟩ := hcut
  obtain rfl := e.symm
  go_wp2_with fail
  go_loop [8, 9, 32] (fun a e i => ∃ (k : Nat) (a' e' : ByteArray), k ≤ n ∧ i = .int .i64 k ∧ a = .string a' ∧ e = .string e' ∧ a'.size ≤ 12001 + 51 * k ∧ e'.size ≤ 12001 ∧ Hid (L a' = U.joinAll (L f) (l.take k)) ∧ Hid (L e' = U.joinEnd (L f) (l.take k))) (fun _ _ i => n - (intOf i).toNat)
  case atStart => exact ⟨0, _, _, Nat.zero_le _, rfl, rfl, rfl, by rw [ByteArray.size_append]; show 1 + f.size ≤ _; omega, he0, by rw [U.app_S, U.L_S]; exact Lib.hid rfl, HE0⟩
  case round =>
    clear HE0 he0
    obtain ⟨k, a1, e1, hk, rfl, rfl, rfl, ha1, he1, HA, HE⟩ := hrel
    by_cases hlt : k < n
    · obtain ⟨gl, off, rfl, hgl, hcl⟩ := HL2.out.at_ (by omega)
      have c0 := hcl k hlt
      obtain ⟨t, HT⟩ : ∃ t, Hid (S (l.getD k []) = t) := ⟨_, Lib.hid rfl⟩
      rw [HT.out] at c0
      have hkl : k < l.length := by rw [HL2.out.len]; exact hlt
      have ht : t.size ≤ 50 := by
        rw [← HT.out, U.size_S, List.getD, List.getElem?_eq_getElem hkl]
        exact HLE.out _ (List.getElem_mem hkl)
      have hA : L (a1 ++ (⟨#[47]⟩ ++ t)) = U.joinAll (L f) (l.take (k + 1)) := by
        rw [joinAll_take _ _ _ hkl, ← HA.out, U.app_S, U.L_S, U.app_S, U.L_S, ← HT.out]
        rfl
      have hE : L t = U.joinEnd (L f) (l.take (k + 1)) := by
        rw [joinEnd_take _ _ _ hkl, ← HT.out]
        rfl
      have HA2 := Lib.hid hA
      have HE2 := Lib.hid hE
      clear hA hE HA HE hcl hkl hgl
      go_wp2_with fail
      go_round
      case rel => exact ⟨k + 1, _, t, by omega, by go_num, rfl, rfl, by rw [ByteArray.size_append, ByteArray.size_append]; show a1.size + (1 + t.size) ≤ _; omega, by omega, HA2, HE2⟩
      case measure => simp [intOf]; omega
    · have hst : l.take k = l := List.take_of_length_le (by rw [HL2.out.len]; omega)
      rw [hst] at HA HE
      have hk2 : k ≤ 10 := by omega
      clear hst HL2 HLE
      have hcn := clean_ne (L a1)
      have hcl := clean_len (L a1)
      rw [U.len_L] at hcl
      obtain ⟨c, HC⟩ : ∃ c, Hid (S (U.clean (L a1)) = c) := ⟨_, Lib.hid rfl⟩
      have hcs : c.size = (U.clean (L a1)).length := by rw [← HC.out, U.size_S]
      have hc1 : (1 : Int) ≤ (c.size : Int) := by omega
      have hc2 : c.size ≤ 20000 := by omega
      have CC := Lib.hid (c_clean a1 w2 (by omega))
      rw [HC.out] at CC
      clear hcn hcl hcs
      go_wp2_with fail
      refine CC.out.mono ?_
      rintro e w3 ⟨rfl, b3⟩
      have K3 := Lib.hid (K2.out.next b3)
      clear b3 CC K2
      go_upto_if 45 with fail
      go_cut [12] (fun t wx => ∃ q : ByteArray, t = .string q ∧ wx = w3 ∧ q.size ≤ 20000 ∧ Hid (L q = if (L f).head? = some 47 then U.clean (U.joinAll (L f) l) else (U.clean (U.joinAll (L f) l)).drop 1))
      case first =>
        have hcc : L c = U.clean (U.joinAll (L f) l) := by rw [← HC.out, HA.out]; rfl
        have HCC := Lib.hid hcc
        clear hcc
        cases far
        · have hh : (L f).head? ≠ some 47 := of_decide_eq_false HFA.out
          have HH := Lib.hid hh
          clear hh
          go_wp2_with fail
          go_meet
          exact ⟨c.extract 1 c.size, rfl, rfl, by rw [ByteArray.size_extract]; omega, by rw [if_neg HH.out, U.ext_from, U.L_S, HCC.out]; exact Lib.hid rfl⟩
        · have hh : (L f).head? = some 47 := of_decide_eq_true HFA.out
          have HH := Lib.hid hh
          clear hh
          go_wp2_with fail
          go_meet
          exact ⟨c, rfl, rfl, hc2, by rw [if_pos HH.out]; exact HCC⟩
      obtain ⟨q, rfl, e, hq, HQ⟩ := hcut
      obtain rfl := e.symm
      obtain ⟨cc, HCB⟩ : ∃ x, Hid (decide ((L e1).getLast? = some 47 ∧ (L q).getLast? ≠ some 47) = x) := ⟨_, Lib.hid rfl⟩
      have HJP : Hid (U.joinPath (L f) l = if (L e1).getLast? = some 47 ∧ (L q).getLast? ≠ some 47 then L q ++ [47] else L q) := by
        rw [HE.out, HQ.out]
        exact Lib.hid rfl
      clear hc1 hc2 HC HA
      go_upto_region 15 with fail
      go_cut [69] (fun t wx => t = .bool cc ∧ wx = w3)
      case first =>
        rcases last_ways e1 with ⟨x1, x2⟩ | ⟨x1, x2, x3, hz, ⟨x4, x5⟩ | ⟨x4, x5⟩⟩
        · have : cc = false := by rw [← HCB.out, x2]; simp
          subst this
          clear x2
          go_wp2_with fail
          go_meet
          exact ⟨rfl, rfl⟩
        · rcases last_ways q with ⟨y1, y2⟩ | ⟨y1, y2, y3, hy, ⟨y4, y5⟩ | ⟨y4, y5⟩⟩
          · have : cc = true := by rw [← HCB.out, y2, x5]; simp
            subst this
            clear x2 x5 y2
            go_wp2_with fail
            go_meet
            exact ⟨rfl, rfl⟩
          · have : cc = false := by rw [← HCB.out, y5]; simp
            subst this
            clear x2 x5 y2 y5
            go_wp2_with fail
            go_meet
            exact ⟨congrArg Value.bool (by rw [bne, y4]; rfl), rfl⟩
          · have : cc = true := by rw [← HCB.out]; exact decide_eq_true ⟨x5, y5⟩
            subst this
            clear x2 x5 y2 y5
            go_wp2_with fail
            go_meet
            exact ⟨congrArg Value.bool (by rw [bne, y4]; rfl), rfl⟩
        · have : cc = false := by rw [← HCB.out]; exact decide_eq_false (fun h => x5 h.1)
          subst this
          clear x2 x5
          go_wp2_with fail
          go_meet
          exact ⟨rfl, rfl⟩
      obtain ⟨rfl, e⟩ := hcut
      obtain rfl := e.symm
      go_upto_if 69 with fail
      go_cut [12] (fun t wx => ∃ q2 : ByteArray, t = .string q2 ∧ wx = w3 ∧ q2.size ≤ 20001 ∧ Hid (L q2 = U.joinPath (L f) l))
      case first =>
        cases cc
        · have hj : U.joinPath (L f) l = L q := by rw [HJP.out, if_neg (of_decide_eq_false HCB.out)]
          have HJ := Lib.hid hj
          clear hj
          go_wp2_with fail
          go_meet
          exact ⟨q, rfl, rfl, by omega, by rw [HJ.out]; exact Lib.hid rfl⟩
        · have hj : U.joinPath (L f) l = L q ++ [47] := by rw [HJP.out, if_pos (of_decide_eq_true HCB.out)]
          have HJ := Lib.hid hj
          clear hj
          go_wp2_with fail
          go_meet
          exact ⟨_, rfl, rfl, by rw [ByteArray.size_append]; show q.size + 1 ≤ _; omega, by rw [HJ.out, U.app_S, U.L_S]; exact Lib.hid rfl⟩
      obtain ⟨q2, rfl, e, hq2, HQ2⟩ := hcut
      obtain rfl := e.symm
      have hsp : Sm q2 := by unfold Sm; omega
      have HSP := Lib.hid hsp
      have HO3 : Hid (U.setPath u q2 = o) := by rw [← HO2.out, ← HQ2.out]; exact Lib.hid rfl
      clear hsp HCB HJP HQ HE HQ2 HO2
      go_wp2_with fail
      refine (c_setPath w3 g u q2 HSP.out K3.out.1).mono ?_
      rw [HO3.out]
      rintro e w4 ⟨rfl, u4, o4⟩
      have hg4 := HG.out
      have I4 := Lib.hid u4
      have J4 : Hid (IsV w4 g' V.zero) := Lib.hid ((o4.block _ (heap_lt K3.out.2.1) (fun e => hg4.1 e.symm)).trans K3.out.2.1)
      have B4 : Hid (Below W.heap.size W w4) := Lib.hid (Only.below K3.out.2.2 o4 K3.out.2.2.size hg4.2)
      clear u4 o4 K3 hg4
      go_wp2_with (first | (refine wpl_loadV rfl _ rfl _ _ rfl I4.out ?_) | (refine wpl_storeV rfl _ _ rfl _ _ _ rfl rfl J4.out ?_; intro wR hR oR))
      refine ret_Vb Tryz.results31 _ _ _ rfl rfl rfl hR ?_
      exact ⟨rfl, Only.below B4.out oR B4.out.size HG2.out⟩
end Go.Proofs.YtphkohpphdcjhaaGreatDoor
