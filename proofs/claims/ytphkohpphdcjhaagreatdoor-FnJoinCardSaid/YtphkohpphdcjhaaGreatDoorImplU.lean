/- The walk of the package's resolvePath. -/
import Derived.Test.YtphkohpphdcjhaaGreatDoorSpecK
import Derived.Test.YtphkohpphdcjhaaGreatDoorK11
import Derived.Lib.AppendStr
namespace Go.Proofs.YtphkohpphdcjhaaGreatDoor
open Go.RowKit Go.Proofs.YtphkohpphdcjhaaGreatDoorW.PrintWords
open U (L S)

/-- A row of the call's own holds the bytes l. -/
structure DstAt (W : World) (l : U.B) (g n cap : Nat) (w : World) : Prop where
  len : l.length = n
  own : w.ownsRow W.heap.size 5 1 (.slice (some ⟨g, 0, none⟩) n cap) n (Lib.byteCells l)
  below : Below W.heap.size W w
theorem DstAt.drawn {W w w' : World} {l : U.B} {g n cap : Nat} (h : DstAt W l g n cap w) (d : Drawn0 w w') : DstAt W l g n cap w' := by
  obtain ⟨k, rfl⟩ := d
  exact ⟨h.len, h.own, below_n h.below k⟩
theorem DstAt.block {W w : World} {l : U.B} {g n cap : Nat} (h : DstAt W l g n cap w) :
    ∃ cur, w.heap[g]? = some (.cells cur 5 (0, 0)) ∧ W.heap.size ≤ g ∧ n ≤ cap ∧ cap ≤ maxLen ∧ cur.size = cap ∧ cur.toList.take n = Lib.byteCells l := by
  rcases h.own.2 with ⟨h1, _⟩ | ⟨g', cap', cur, h1, h2, h3, h4, h5, h6, h7⟩
  · cases h1
  · simp only [Value.slice.injEq, Option.some.injEq, Addr.mk.injEq, true_and] at h1
    obtain ⟨⟨rfl, _⟩, rfl⟩ := h1
    exact ⟨cur, h3, h2, h4, h5, by omega, by simpa using h7⟩
theorem DstAt.take {W w : World} {l : U.B} {g n cap m : Nat} (h : DstAt W l g n cap w) (hm : m ≤ n) : DstAt W (l.take m) g m cap w := by
  obtain ⟨cur, h1, h2, h3, h4, h5, h6⟩ := h.block
  have hl := h.len
  have hlt : (l.take m).length = m := by rw [List.length_take]; omega
  refine ⟨hlt, ⟨by rw [Lib.byteCells_length, hlt, Nat.mul_one], .inr ⟨g, cap, cur, rfl, h2, h1, by omega, h4, by omega, ?_⟩⟩, h.below⟩
  rw [Nat.mul_one]
  have : cur.toList.take m = (cur.toList.take n).take m := by rw [List.take_take, Nat.min_eq_left hm]
  rw [this, h6, Lib.byteCells, Lib.byteCells, List.map_take]
theorem DstAt.cell {W w : World} {l : U.B} {g n cap : Nat} (h : DstAt W l g n cap w) (j : Nat) (hj : j < n) : w.cell? ⟨g, j, none⟩ = some (.int .u8 ((l.getD j 0).toNat : Int)) := by
  obtain ⟨cur, h1, h2, h3, h4, h5, h6⟩ := h.block
  have hl := h.len
  have e := congrArg (fun x => x[j]?) h6
  simp only [List.getElem?_take, hj, if_true, Lib.byteCells, List.getElem?_map] at e
  rw [List.getElem?_eq_getElem (show j < l.length by omega)] at e
  simp only [World.cell?, h1]
  rw [List.getD, List.getElem?_eq_getElem (show j < l.length by omega)]
  simpa using e
theorem DstAt.free {W w : World} {l : U.B} {g n cap : Nat} (h : DstAt W l g n cap w) (j : Nat) : w.frozen? ⟨g, j, none⟩ = false := by
  obtain ⟨cur, h1, _⟩ := h.block
  simp [World.frozen?, h1]
theorem dst_new (W w : World) (cap : Nat) (hb : Below W.heap.size W w) (hm : cap ≤ maxLen) (cs : Array Value) (hs : cs.size = cap) : DstAt W [] w.heap.size 0 cap (w.alloc (.cells cs 5)) :=
  ⟨rfl, World.ownsRow_made w cs cap hb.size hm (by omega), hb.alloc hb.size _⟩
theorem DstAt.grown {W w w' : World} {l l' : U.B} {g n n' cap : Nat} {v' : Value} (h : DstAt W l g n cap w) (hn : l'.length = n') (h0 : 0 < n')
    (ho : w'.ownsRow W.heap.size 5 1 v' n' (Lib.byteCells l')) (hg : w.grownBy w' (some g)) : ∃ g' cap', v' = .slice (some ⟨g', 0, none⟩) n' cap' ∧ DstAt W l' g' n' cap' w' := by
  obtain ⟨cur, h1, h2, _⟩ := h.block
  have hb : Below W.heap.size W w' := h.below.grown hg h.below.size (fun k hk => by cases hk; exact h2)
  rcases ho.2 with ⟨_, rfl⟩ | ⟨g', cap', cur, rfl, h2, h3, h4, h5, h6, h7⟩
  · omega
  · exact ⟨g', cap', rfl, hn, ho, hb⟩
section
variable {ops : Array Oper} {rest : List Oper} {o : Oper} {a : Act} {Q : Exit → Act → World → Prop}
theorem dst_byte {W w0 : World} {l : U.B} {g n cap : Nat} (hgd : o.guard = none) (s x : Operand) (ho : o.op = .call { callee := .builtin .append, args := #[s, x], argTypes := #[70, 70] })
    (hs : a.eval s = .slice (some ⟨g, 0, none⟩) n cap) (hD : DstAt W l g n cap w0) (c : UInt8) (y : Int) (hy : y = (c.toNat : Int)) (hx : a.eval x = .slice (some ⟨w0.heap.size, 0, none⟩) 1 1) (hn : n ≤ 1000000)
    (h : ∀ g' cap' w', DstAt W (l ++ [c]) g' (n + 1) cap' w' → wpList Tryz.prog ops Q rest (a.put o.dst (.slice (some ⟨g', 0, none⟩) (n + 1) cap')) w') : wpList Tryz.prog ops Q (o :: rest) a (w0.alloc (.cells #[.int .u8 y] 5)) := by
  subst hy
  obtain ⟨i0, hi, hz0, hz1, hz2⟩ := info_parts info5
  have hD' : DstAt W l g n cap (w0.alloc (.cells #[.int .u8 (c.toNat : Int)] 5)) := ⟨hD.len, hD.own.alloc _, hD.below.alloc hD.below.size _⟩
  refine wpList_append_own _ hgd s x 70 ho W.heap.size 5 i0 (.int .u8 0) 1 1 Tryz.underlying70 hi hz0 hz1 hz2 rfl (by decide) _ n _ hs hD'.own ⟨w0.heap.size, 0, none⟩ 1 1 [.int .u8 (c.toNat : Int)] hx rfl ?_ ?_ (by unfold maxLen; omega) (by omega) hD'.below.size ?_
  · intro j u hj
    match j, hj with
    | 0, hj => simp at hj; subst hj; simp [Addr.add]
    | (j + 1), hj => simp at hj
  · intro u hu; simp at hu; subst hu; rfl
  · intro v' w' ho' hg _
    obtain ⟨g', cap', rfl, hd⟩ := hD'.grown (l' := l ++ [c]) (n' := n + 1) (by rw [List.length_append, hD.len, List.length_singleton]) (by omega) (by rw [Lib.byteCells, List.map_append]; exact ho') hg
    exact h g' cap' w' hd
theorem dst_text {W w : World} {l : U.B} {g n cap : Nat} (hgd : o.guard = none) (s x : Operand) (ho : o.op = .call { callee := .builtin .append, args := #[s, x], argTypes := #[70, 9] })
    (hs : a.eval s = .slice (some ⟨g, 0, none⟩) n cap) (hD : DstAt W l g n cap w) (t : ByteArray) (hx : a.eval x = .string t) (hn : n + t.size ≤ 1000000) (h0 : 0 < n)
    (h : ∀ g' cap' w', DstAt W (l ++ L t) g' (n + t.size) cap' w' → wpList Tryz.prog ops Q rest (a.put o.dst (.slice (some ⟨g', 0, none⟩) (n + t.size) cap')) w') : wpList Tryz.prog ops Q (o :: rest) a w := by
  obtain ⟨i0, hi, hz0, hz1, hz2⟩ := info_parts info5
  refine Lib.wpList_append_own_string w hgd s x 70 9 ho W.heap.size 5 i0 Tryz.underlying70 Tryz.underlying9 hi hz0 hz1 hz2 _ n _ hs hD.own t hx (by unfold maxLen; omega) (by omega) hD.below.size ?_
  intro v' w' ho' hg _
  obtain ⟨g', cap', rfl, hd⟩ := hD.grown (l' := l ++ L t) (n' := n + t.size) (by rw [List.length_append, hD.len, U.len_L]) (by omega) (by rw [Lib.byteCells, List.map_append]; exact ho') hg
  exact h g' cap' w' hd
end
theorem make_0 (r : Int) (h0 : 0 ≤ r) (h1 : r ≤ 10000000000) (W : World) :
    (Instr.makeSlice 70 (.int .i64 0) (.int .i64 r)).run Tryz.prog W = .ok (.slice (some ⟨W.heap.size, 0, none⟩) 0 r.toNat) (W.alloc (.cells (madeCells #[.int .u8 0] r.toNat) 5)) := by
  obtain ⟨i0, hi, hz0, hz1, hz2⟩ := info_parts info5
  have := run_make (P := Tryz.prog) W 70 5 i0 _ Tryz.underlying70 hi hz0 .i64 .i64 0 r (by decide) h0 (by rw [hz2]; omega) (by omega)
  rw [hz1, Nat.mul_one] at this
  exact this
theorem conv_dst {W w : World} {l : U.B} {g n cap : Nat} (h : DstAt W l g n cap w) : (convert 70 9 (.slice (some ⟨g, 0, none⟩) n cap)).run Tryz.prog w = .ok (.string (S l)) w := by
  have := Lib.run_convert_whole (P := Tryz.prog) w 70 5 9 Tryz.underlying70 Tryz.underlying5 Tryz.underlying9 g 0 (S l) (fun i hi => by
    have hi' : i < n := by rw [← h.len, ← U.size_S]; exact hi
    rw [Nat.zero_add, h.cell i hi', List.getD, List.getElem?_eq_getElem (by rw [h.len]; exact hi')]
    rfl) cap
  rw [U.size_S, h.len] at this
  exact this
theorem conv_dst1 {W w : World} {l : U.B} {g n cap cap' : Nat} (h : DstAt W l g n cap w) : (convert 70 9 (.slice (some ⟨g, 1, none⟩) (n - 1) cap')).run Tryz.prog w = .ok (.string (S (l.drop 1))) w := by
  have := Lib.run_convert_whole (P := Tryz.prog) w 70 5 9 Tryz.underlying70 Tryz.underlying5 Tryz.underlying9 g 1 (S (l.drop 1)) (fun i hi => by
    rw [U.size_S, List.length_drop, h.len] at hi
    have hi' : 1 + i < n := by omega
    rw [h.cell (1 + i) hi', List.getD, List.getElem?_eq_getElem (by rw [h.len]; exact hi')]
    simp only [Option.getD_some]
    congr 3
    show (l[1 + i]'(by rw [h.len]; exact hi')).toNat = ((l.drop 1)[i]'(by rw [List.length_drop, h.len]; omega)).toNat
    rw [List.getElem_drop]) cap'
  rw [U.size_S, List.length_drop, h.len] at this
  exact this

set_option maxHeartbeats 1600000 in
theorem i_lastByte (W : World) (g off n cap : Nat) (l : U.B) (c : UInt8) (r : Int) (hl : l.length = n) (hn : n ≤ 1000000) (hc : ∀ j, j < n → W.cell? ⟨g, off + j, none⟩ = some (.int .u8 ((l.getD j 0).toNat : Int))) (H : Hid (U.lastI c l = r)) :
    Calls Tryz.prog 116 #[.slice (some ⟨g, off, none⟩) n cap, .int .u8 (c.toNat : Int)] W fun e w' => e = .returned (.int .i64 r) ∧ W = w' := by
  have HL := Lib.hid hl
  have HC := Lib.hid hc
  clear hl hc
  go_enter Tryz.func116, Tryz.ntmps116
  go_wp2_with fail
  go_loop [5] (fun i => ∃ k : Nat, k ≤ n ∧ i = .int .i64 ((k : Int) - 1) ∧ Hid (U.lastI c (l.take k) = r)) (fun i => (intOf i + 1).toNat)
  case atStart => exact ⟨n, Nat.le_refl _, rfl, by rw [List.take_of_length_le (by rw [HL.out]; exact Nat.le_refl _)]; exact H⟩
  case round =>
    clear H
    obtain ⟨k, hk, rfl, HK⟩ := hrel
    cases k with
    | zero =>
      have : r = -1 := by rw [← HK.out]; rfl
      subst this
      go_wp2_with fail
      go_ret
      exact ⟨rfl, rfl⟩
    | succ k =>
      have e1 : ((k + 1 : Nat) : Int) - 1 = (k : Int) := by omega
      have hkl : k < l.length := by rw [HL.out]; omega
      have hr : r = if l[k] = c then (k : Int) else U.lastI c (l.take k) := by
        rw [← HK.out, U.take_at l k hkl, U.lastI_snoc, List.length_take, Nat.min_eq_left (by omega)]
      have hx : l.getD k 0 = l[k] := by rw [List.getD, List.getElem?_eq_getElem hkl]; rfl
      have c0 := HC.out k (by omega)
      rw [hx] at c0
      rw [e1]
      obtain ⟨x, HX⟩ : ∃ x, Hid (l[k] = x) := ⟨l[k], Lib.hid rfl⟩
      rw [HX.out] at c0 hr
      clear HK hx HX hkl
      by_cases hxc : x = c
      · rw [if_pos hxc] at hr
        subst hr hxc
        go_wp2_with fail
        go_ret
        exact ⟨rfl, rfl⟩
      · rw [if_neg hxc] at hr
        have hne : ((x.toNat : Int) == (c.toNat : Int)) = false := by
          have : x.toNat ≠ c.toNat := fun e => hxc (UInt8.toNat_inj.1 e)
          simp only [beq_eq_false_iff_ne, ne_eq]
          omega
        have HR := Lib.hid hr
        clear hr hxc
        go_wp2_with fail
        go_round
        case rel => exact ⟨k, by omega, rfl, Lib.hid HR.out.symm⟩
        case measure => simp [intOf]
theorem i_lastByte5 (W : World) (g off n cap : Nat) (l : U.B) (c : UInt8) (r : Int) (hl : l.length = n) (hn : n ≤ 1000000) (hc : ∀ j, j < n → W.cell? ⟨g, off + j, none⟩ = some (.int .u8 ((l.getD j 0).toNat : Int))) (H : Hid (U.lastI c l = r)) :
    Calls Tryz.prog 105 #[.slice (some ⟨g, off, none⟩) n cap, .int .u8 (c.toNat : Int)] W fun e w' => e = .returned (.int .i64 r) ∧ W = w' := by
  have C := Lib.hid (i_lastByte W g off n cap l c r hl hn hc H)
  clear hl hc H
  go_enter Tryz.func105, Tryz.ntmps105
  go_wp2_with fail
  refine C.out.mono ?_
  rintro e w1 ⟨rfl, rfl⟩
  go_wp2_with fail
  go_ret
  exact ⟨rfl, rfl⟩

/-- The bytes' own ways of the end. -/
theorem tail_waysB (l : U.B) (n : Nat) (hl : l.length = n) : (¬ (1 : Int) < (n : Int) ∧ jTail l = l) ∨
    ((1 : Int) < (n : Int) ∧ (((l.getD 1 0).toNat : Int) == 47) = true ∧ jTail l = l.drop 1) ∨
    ((1 : Int) < (n : Int) ∧ (((l.getD 1 0).toNat : Int) == 47) = false ∧ jTail l = l) := by
  have hs : (S l).size = n := by rw [U.size_S, hl]
  have e1 : ∀ hz : 1 < (S l).size, ((S l)[1]'hz).toNat = (l.getD 1 0).toNat := fun hz => by
    rw [List.getD, List.getElem?_eq_getElem (by rw [hl, ← hs]; exact hz)]
    rfl
  rcases tail_ways (S l) with ⟨h1, h2⟩ | ⟨h1, hz, h2, h3⟩ | ⟨h1, hz, h2, h3⟩
  · exact .inl ⟨by rw [← hs]; exact h1, h2⟩
  · exact .inr (.inl ⟨by rw [← hs]; exact h1, by rw [← e1 hz]; exact h2, h3⟩)
  · exact .inr (.inr ⟨by rw [← hs]; exact h1, by rw [← e1 hz]; exact h2, h3⟩)

set_option maxRecDepth 100000 in
set_option maxHeartbeats 12800000 in
theorem i_resolvePath (b r : ByteArray) (W : World) (hb : b.size ≤ 100000) (hr : r.size ≤ 100000) :
    Calls Tryz.prog 84 #[.string b, .string r] W fun e w' => e = .returned (.string (S (U.joined (L b) (L r)))) ∧ Below W.heap.size W w' := by
  obtain ⟨o, HO⟩ : ∃ o, Hid (S (U.joined (L b) (L r)) = o) := ⟨_, rfl⟩
  rw [HO.out]
  obtain ⟨la, HLA⟩ : ∃ x, Hid (U.lastI 47 (L b) = x) := ⟨_, rfl⟩
  have hl1 : -1 ≤ la := HLA.out ▸ U.lastI_ge _ _
  have hl2 : la < b.size := by have := HLA.out ▸ U.lastI_lt 47 (L b); rwa [U.len_L] at this
  have hf0 : (S (U.jFull (L b) (L r))).size ≤ 200000 := by
    rw [U.size_S]
    unfold U.jFull
    split
    · rw [U.len_L]; omega
    · split
      · rw [List.length_append, List.length_take, U.len_L, U.len_L]; omega
      · rw [U.len_L]; omega
  obtain ⟨full, HF⟩ : ∃ x, Hid (S (U.jFull (L b) (L r)) = x) := ⟨_, rfl⟩
  rw [HF.out] at hf0
  have HJ : Hid (U.joined (L b) (L r) = if L full = [] then [] else U.jAll (L full)) := Lib.hid (by rw [← HF.out]; rfl)
  obtain ⟨er, HER⟩ : ∃ c, Hid (em r = c) := ⟨_, rfl⟩
  go_enter Tryz.func84, Tryz.ntmps84
  go_upto_region 2 with fail
  go_cut [14] (fun t wx => t = .bool er ∧ wx = W)
  case first =>
    rcases em_ways _ _ HER with ⟨rfl, x1⟩ | ⟨rfl, x1⟩
    all_goals
      go_wp2_with fail
      go_meet
      exact ⟨rfl, rfl⟩
  obtain ⟨rfl, e⟩ := hcut
  obtain rfl := e.symm
  go_upto_if 14 with fail
  go_cut [5] (fun t wx => t = .string full ∧ wx = W)
  case first =>
    as_aux_lemma =>
    rcases full_ways b r with ⟨h1, h2⟩ | ⟨h1, hz, h2, h3⟩ | ⟨h1, hz, h2, h3⟩
    · have hh := Lib.hid h2
      have : er = true := by rw [← HER.out, em, decide_eq_true]; rw [← U.toList_L]; exact h1
      subst this
      clear h2 h1
      go_wp2_with fail
      go_meet
      exact ⟨by rw [← HF.out, hh.out, U.S_L], rfl⟩
    · have hh := Lib.hid h3
      have : er = false := by rw [← HER.out, em, decide_eq_false]; rw [← U.toList_L]; simpa using h1
      subst this
      clear h3 h1
      go_wp2_with fail
      go_meet
      exact ⟨by rw [← HF.out, hh.out, U.S_L], rfl⟩
    · have hh := Lib.hid h3
      have : er = false := by rw [← HER.out, em, decide_eq_false]; rw [← U.toList_L]; simpa using h1
      subst this
      clear h3 h1
      go_wp2_with fail
      refine (i_last b _ 47 la W (by unfold Sm; omega) rfl HLA).mono ?_
      rintro e w1 ⟨rfl, rfl⟩
      go_wp2_with fail
      go_meet
      refine ⟨?_, rfl⟩
      rw [← HF.out, hh.out, HLA.out, U.ext_to, U.app_S, U.L_S]
  obtain ⟨rfl, e⟩ := hcut
  obtain rfl := e.symm
  clear HF hl1 hl2 HLA HER
  rcases empty_ways full with ⟨e1, e2⟩ | ⟨e1, e2⟩
  · have hj : U.joined (L b) (L r) = [] := by rw [HJ.out, if_pos e1]
    have HJ2 := Lib.hid hj
    clear hj e1
    go_wp2_with fail
    go_ret
    exact ⟨by rw [← HO.out, HJ2.out] <;> rfl, Below.refl _ _⟩
  · have hj : U.joined (L b) (L r) = U.jAll (L full) := by rw [HJ.out, if_neg e1]
    obtain ⟨R, HR⟩ : ∃ R, Hid (U.joined (L b) (L r) = R) := ⟨_, rfl⟩
    rw [HR.out] at HO
    have HJ0 : Hid (Joins R [47] [] (L full) true true) := by rw [← HR.out, hj]; exact Lib.hid (Joins.start _)
    clear hj e1 HJ HR hb hr
    have ef : ((full.size : Int) + 1).toNat = full.size + 1 := by omega
    have mk := make_0 ((full.size : Int) + 1) (by omega) (by omega) W
    have hD0 := dst_new W W (full.size + 1) (Below.refl _ _) (by unfold maxLen; omega) (madeCells #[.int .u8 0] ((full.size : Int) + 1).toNat) (by rw [ef]; simp [madeCells])
    rw [ef] at mk hD0
    obtain ⟨W0, hW0⟩ : ∃ x, W.alloc (.cells (madeCells #[.int .u8 0] (full.size + 1)) 5) = x := ⟨_, rfl⟩
    rw [hW0] at mk hD0
    have HD0 := Lib.hid hD0
    clear hD0 hW0 ef
    go_upto_region 16 with (first | (at_builtin; refine dst_byte rfl _ _ rfl rfl HD0.out 47 _ rfl rfl (by decide) ?_; intro g1 cap1 w1 hD1))
    have HD1 : Hid (DstAt W [47] g1 1 cap1 w1) := Lib.hid hD1
    clear hD1 mk HD0
    go_loopw [7, 8, 9, 10, 11] (fun d e l m f w' => ∃ (o' : U.B) (g n cap : Nat) (e' l' : ByteArray) (f' m' : Bool), d = .slice (some ⟨g, 0, none⟩) n cap ∧ e = .string e' ∧ l = .string l' ∧ m = .bool m' ∧ f = .bool f' ∧ n + l'.size + szOf m ≤ 200002 ∧ 1 ≤ n ∧ Hid (Joins R o' (L e') (L l') f' m') ∧ Hid (DstAt W o' g n cap w')) (fun _ _ l m _ _ => szOf l + szOf m)
    case atStart => exact ⟨[47], g1, 1, cap1, _, _, _, _, rfl, rfl, rfl, rfl, rfl, by show 1 + full.size + 1 ≤ _; omega, Nat.le_refl _, HJ0, HD1⟩
    case round =>
      clear HJ0 HD1
      obtain ⟨o1, g, n, cap, e1, l1, f1, m1, rfl, rfl, rfl, rfl, rfl, hsz, hn1, HJ, HD⟩ := hrel
      cases m1
      · have hr : R = jTail (U.jEnd1 o1 (L e1)) := HJ.out.fin
        have HR := Lib.hid hr
        have hs0 : szOf (.bool false) = 0 := rfl
        have hso : n ≤ 200002 := by omega
        clear hr HJ hsz hs0
        obtain ⟨c, HC⟩ : ∃ c, Hid (decide (L e1 = [46] ∨ L e1 = [46, 46]) = c) := ⟨_, rfl⟩
        go_upto_region 31 with fail
        go_cut [77] (fun t wx => t = .bool c ∧ wx = wr)
        case first =>
          rcases el_ways e1 with ⟨x1, x2⟩ | ⟨x1, x2⟩ | ⟨x1, x2, x3, x4⟩
          · have : c = true := by rw [← HC.out]; exact decide_eq_true (.inl x1)
            subst this
            clear x1
            go_wp2_with fail
            go_meet
            exact ⟨rfl, rfl⟩
          · have : c = true := by rw [← HC.out]; exact decide_eq_true (.inr x1)
            subst this
            clear x1
            go_wp2_with fail
            go_meet
            exact ⟨rfl, rfl⟩
          · have : c = false := by rw [← HC.out]; exact decide_eq_false (by rintro (h | h); exact x1 h; exact x2 h)
            subst this
            clear x1 x2
            go_wp2_with fail
            go_meet
            exact ⟨rfl, rfl⟩
        obtain ⟨rfl, e⟩ := hcut
        obtain rfl := e.symm
        go_upto_if 77 with fail
        go_cut [7] (fun t wx => ∃ (o2 : U.B) (g2 n2 cap2 : Nat), t = .slice (some ⟨g2, 0, none⟩) n2 cap2 ∧ n2 ≤ 200003 ∧ 1 ≤ n2 ∧ Hid (R = jTail o2) ∧ Hid (DstAt W o2 g2 n2 cap2 wx))
        case first =>
          cases c
          · have hq : U.jEnd1 o1 (L e1) = o1 := by rw [U.jEnd1, if_neg (of_decide_eq_false HC.out)]
            have HQ := Lib.hid hq
            clear hq
            go_wp2_with fail
            go_meet
            exact ⟨o1, g, n, cap, rfl, by omega, hn1, by rw [← HQ.out]; exact HR, HD⟩
          · have hq : U.jEnd1 o1 (L e1) = o1 ++ [47] := by rw [U.jEnd1, if_pos (of_decide_eq_true HC.out)]
            have HQ := Lib.hid hq
            clear hq
            go_wp2_with (first | (at_builtin; refine dst_byte rfl _ _ rfl rfl HD.out 47 _ rfl rfl (by omega) ?_; intro g2 cap2 w2 hD2))
            have HD2 := Lib.hid hD2
            clear hD2
            go_wp2_with fail
            go_meet
            exact ⟨o1 ++ [47], g2, n + 1, cap2, rfl, by omega, by omega, by rw [← HQ.out]; exact HR, HD2⟩
        obtain ⟨o2, g2, n2, cap2, rfl, hn2, hn3, HR2, HD2⟩ := hcut
        clear HR HC hso HD hn1
        have hcap : n2 ≤ cap2 := by obtain ⟨_, _, _, h, _⟩ := HD2.out.block; exact h
        have cv := conv_dst HD2.out
        have cv1 := conv_dst1 (cap' := cap2 - 1) HD2.out
        rcases tail_waysB o2 n2 HD2.out.len with ⟨t1, t2⟩ | ⟨t1, t2, t3⟩ | ⟨t1, t2, t3⟩
        · rw [t2] at HR2
          clear t2
          go_wp2_with fail
          go_ret
          exact ⟨by rw [← HO.out, HR2.out] <;> rfl, HD2.out.below⟩
        · rw [t3, List.drop_one] at HR2
          clear t3
          have c1 := HD2.out.cell 1 (by omega)
          obtain ⟨x, HX⟩ : ∃ x, Hid (o2.getD 1 0 = x) := ⟨_, Lib.hid rfl⟩
          rw [HX.out] at t2 c1
          rw [List.drop_one] at cv1
          go_wp2_with fail
          go_ret
          exact ⟨by rw [← HO.out, HR2.out] <;> rfl, HD2.out.below⟩
        · rw [t3] at HR2
          clear t3
          have c1 := HD2.out.cell 1 (by omega)
          obtain ⟨x, HX⟩ : ∃ x, Hid (o2.getD 1 0 = x) := ⟨_, Lib.hid rfl⟩
          rw [HX.out] at t2 c1
          rw [List.drop_one] at cv1
          go_wp2_with fail
          go_ret
          exact ⟨by rw [← HO.out, HR2.out] <;> rfl, HD2.out.below⟩
      · obtain ⟨a1, H1⟩ : ∃ x, (U.cut 47 (L l1)).1 = L x := ⟨S _, rfl⟩
        obtain ⟨a2, H2⟩ : ∃ x, (U.cut 47 (L l1)).2.1 = L x := ⟨S _, rfl⟩
        obtain ⟨a3, H3⟩ : ∃ x, (U.cut 47 (L l1)).2.2 = x := ⟨_, rfl⟩
        have HCU : Hid (U.cut 47 (L l1) = (L a1, L a2, a3)) := by rw [← H1, ← H2, ← H3]; exact Lib.hid rfl
        clear H1 H2 H3
        have hsum : a1.size + a2.size + szOf (.bool a3) = l1.size := by
          have := cut_sizes HCU.out
          cases a3
          · have := this.2 rfl
            show _ + 0 = _
            omega
          · have := this.1 rfl
            show _ + 1 = _
            omega
        have hs1 : szOf (.bool true) = 1 := rfl
        have hol : o1.length = n := HD.out.len
        have HN := Lib.hid (HJ.out.step (L a1) (L a2) a3 HCU.out)
        rw [← (U.iStep_is HJ.out.1 (L a1)).1] at HN
        have hms : szOf (.string a2) + szOf (.bool a3) < szOf (.string l1) + szOf (.bool true) := by
          show a2.size + _ < l1.size + 1
          omega
        have HMS := Lib.hid hms
        have HOL := Lib.hid hol
        clear hms hol
        go_wp2_with fail
        refine (i_cut l1 _ a1 a2 47 a3 wr (by unfold Sm; omega) rfl HCU).mono ?_
        rintro e w1 ⟨rfl, d1⟩
        have HD1 := Lib.hid (HD.out.drawn d1)
        clear d1 HD HCU HJ
        rcases el_ways a1 with ⟨x1, x2⟩ | ⟨x1, x2⟩ | ⟨x1, x2, x3, x4⟩
        · have HN2 : Hid (Joins R o1 (L a1) (L a2) false a3) := by
            have := HN.out
            rw [x1] at this ⊢
            exact Lib.hid this
          clear x1 HN
          go_wp2_with fail
          go_roundw
          case rel => exact ⟨o1, g, n, cap, a1, a2, false, a3, rfl, rfl, rfl, rfl, rfl, by omega, hn1, HN2, HD1⟩
          case measure => exact HMS.out
        · obtain ⟨la, HLA⟩ : ∃ x, Hid (U.lastI 47 (o1.drop 1) = x) := ⟨_, rfl⟩
          have hl1 : -1 ≤ la := HLA.out ▸ U.lastI_ge _ _
          have hl2 : la < (n : Int) - 1 := by
            have := HLA.out ▸ U.lastI_lt 47 (o1.drop 1)
            rw [List.length_drop, HOL.out] at this
            omega
          have hnn : (1 : Int) ≤ (n : Int) := by omega
          have HN2 : Hid (Joins R (U.iBack o1) (L a1) (L a2) (decide ((U.iBack o1).length = 1)) a3) := by
            have := HN.out
            rw [x1] at this ⊢
            exact Lib.hid this
          have CC : Hid (∀ j, j < n - 1 → w1.cell? ⟨g, 1 + j, none⟩ = some (.int .u8 (((o1.drop 1).getD j 0).toNat : Int))) := Lib.hid fun j hj => by
            rw [HD1.out.cell (1 + j) (by omega)]
            congr 3
            simp [List.getD, Nat.add_comm]
          clear x1 HN
          have hcap : n ≤ cap := by obtain ⟨_, _, _, h, _⟩ := HD1.out.block; exact h
          by_cases hc1 : cap = 1
          · obtain rfl := hc1
            obtain rfl : n = 1 := by omega
            obtain rfl : la = -1 := by omega
            have hb : U.iBack o1 = o1.take 1 := by rw [U.iBack, HLA.out, if_neg (by decide)]
            have HD2 := Lib.hid (HD1.out.take (m := 1) hn1)
            have hlen : (o1.take 1).length = 1 := HD2.out.len
            rw [hb, hlen] at HN2
            clear hb hlen CC HLA
            go_wp2_with fail
            refine (i_lastByte5 w1 g 0 0 _ [] 47 (-1) rfl (by omega) (fun j hj => by omega) (Lib.hid rfl)).mono ?_
            rintro e w2 ⟨rfl, rfl⟩
            go_wp2_with fail
            go_roundw
            case rel => exact ⟨o1.take 1, g, 1, 1, a1, a2, true, a3, rfl, rfl, rfl, rfl, rfl, by omega, Nat.le_refl _, HN2, HD2⟩
            case measure => exact HMS.out
          have hc2 : ¬ (cap : Int) = 1 := by omega
          go_wp2_with fail
          refine (i_lastByte5 w1 g 1 (n - 1) _ (o1.drop 1) 47 la (by rw [List.length_drop, HOL.out]) (by omega) CC.out HLA).mono ?_
          rintro e w2 ⟨rfl, rfl⟩
          by_cases h0 : 0 ≤ la
          · obtain ⟨k, rfl⟩ : ∃ k : Nat, la = (k : Int) := ⟨la.toNat, by omega⟩
            have hb : U.iBack o1 = o1.take (k + 1) := by rw [U.iBack, HLA.out, if_pos h0]; rfl
            have HD2 := Lib.hid (HD1.out.take (m := k + 1) (by omega))
            have hlen : (o1.take (k + 1)).length = k + 1 := HD2.out.len
            rw [hb, hlen] at HN2
            clear hb hlen CC HLA
            cases k with
            | zero =>
              go_wp2_with fail
              go_roundw
              case rel => exact ⟨o1.take 1, g, 1, cap, a1, a2, true, a3, rfl, rfl, rfl, rfl, rfl, by omega, Nat.le_refl _, HN2, HD2⟩
              case measure => exact HMS.out
            | succ k =>
              have hne : ((((k + 1 : Nat) : Int) + 1) == 1) = false := by simp; omega
              have hdf : decide (k + 1 + 1 = 1) = false := decide_eq_false (by omega)
              rw [hdf] at HN2
              clear hdf
              go_wp2_with fail
              go_roundw
              case rel => exact ⟨o1.take (k + 1 + 1), g, k + 1 + 1, cap, a1, a2, false, a3, by first | rfl | go_num | simp, rfl, rfl, rfl, by first | rfl | go_num | simp, by omega, by omega, HN2, HD2⟩
              case measure => exact HMS.out
          · have hb : U.iBack o1 = o1.take 1 := by rw [U.iBack, HLA.out, if_neg h0]
            have HD2 := Lib.hid (HD1.out.take (m := 1) hn1)
            have hlen : (o1.take 1).length = 1 := HD2.out.len
            rw [hb, hlen] at HN2
            clear hb hlen CC HLA
            go_wp2_with fail
            go_roundw
            case rel => exact ⟨o1.take 1, g, 1, cap, a1, a2, true, a3, rfl, rfl, rfl, rfl, rfl, by omega, Nat.le_refl _, HN2, HD2⟩
            case measure => exact HMS.out
        · have HN2 : Hid (Joins R ((if f1 then o1 else o1 ++ [47]) ++ L a1) (L a1) (L a2) false a3) := by
            have := HN.out
            rw [U.iStep, if_neg x1, if_neg x2] at this
            exact Lib.hid this
          clear x1 x2 HN
          cases f1
          · go_upto_region 21 with (first | (at_builtin; refine dst_byte rfl _ _ rfl rfl HD1.out 47 _ rfl rfl (by omega) ?_; intro g2 cap2 w2 hD2))
            have HD2 := Lib.hid hD2
            clear hD2 HD1
            go_wp2_with (first | (at_builtin; refine dst_text rfl _ _ rfl rfl HD2.out a1 rfl (by omega) (by omega) ?_; intro g3 cap3 w3 hD3))
            have HD3 := Lib.hid hD3
            clear hD3 HD2
            go_wp2_with fail
            go_roundw
            case rel => exact ⟨o1 ++ [47] ++ L a1, g3, n + 1 + a1.size, cap3, a1, a2, false, a3, rfl, rfl, rfl, rfl, rfl, by omega, by omega, HN2, HD3⟩
            case measure => exact HMS.out
          · go_wp2_with (first | (at_builtin; refine dst_text rfl _ _ rfl rfl HD1.out a1 rfl (by omega) (by omega) ?_; intro g3 cap3 w3 hD3))
            have HD3 := Lib.hid hD3
            clear hD3 HD1
            go_wp2_with fail
            go_roundw
            case rel => exact ⟨o1 ++ L a1, g3, n + a1.size, cap3, a1, a2, false, a3, rfl, rfl, rfl, rfl, rfl, by omega, by omega, HN2, HD3⟩
            case measure => exact HMS.out
end Go.Proofs.YtphkohpphdcjhaaGreatDoor
