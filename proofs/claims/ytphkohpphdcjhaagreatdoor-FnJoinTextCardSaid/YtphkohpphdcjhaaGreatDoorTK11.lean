/- Texts taken apart by the package and the thin package. -/
import Derived.Test.YtphkohpphdcjhaaGreatDoorTK10
import Derived.Test.YtphkohpphdcjhaaGreatDoorTK1
namespace Go.Proofs.YtphkohpphdcjhaaGreatDoor
open Go.RowKit Go.Proofs.YtphkohpphdcjhaaGreatDoorW.PrintWords
open U (L S)

theorem frag_key (v : V) (d : U.B) : (match U.unesc 3 d with
    | none => some none
    | some f => some (some { v with fragment := S f, rawFragment := if U.esc 3 f = d then E else S d })) = some (if (setFrag v (S d)).2 = true then some (setFrag v (S d)).1 else none) := by
  cases h : U.unesc 3 d with
  | none =>
    have h2 : (setFrag v (S d)).2 = false := by
      show (U.unesc 3 d).isSome = false
      rw [h]
      rfl
    rw [h2]
    rfl
  | some f =>
    have h2 : (setFrag v (S d)).2 = true := by
      show (U.unesc 3 d).isSome = true
      rw [h]
      rfl
    have h1 : (setFrag v (S d)).1 = { v with fragment := S f, rawFragment := if U.esc 3 f = d then E else S d } := by
      show ({ v with fragment := S ((U.unesc 3 d).getD []), rawFragment := if U.esc 3 ((U.unesc 3 d).getD []) = d then E else S d } : V) = _
      rw [h]
      rfl
    rw [h1, h2]
    rfl
theorem parse_eq (l : U.B) : U.parse l false = match U.parse1 (U.cut 35 l).1 false with
    | none => none
    | some none => some none
    | some (some v) => if (U.cut 35 l).2.1 = [] then some (some v) else some (if (setFrag v (S (U.cut 35 l).2.1)).2 = true then some (setFrag v (S (U.cut 35 l).2.1)).1 else none) := by
  unfold U.parse
  simp only [Bool.false_eq_true, if_false]
  generalize U.cut 35 l = c
  cases U.parse1 c.1 false with
  | none => rfl
  | some x =>
    cases x with
    | none => rfl
    | some v =>
      simp only [List.isEmpty_iff]
      by_cases h : c.2.1 = []
      · rw [if_pos h, if_pos h]
      · rw [if_neg h, if_neg h]
        exact frag_key v c.2.1

set_option maxRecDepth 100000 in
set_option maxHeartbeats 3200000 in
theorem i_ParseRequest (s : ByteArray) (o : Option V) (W : World) (hs : s.size ≤ 10000000) (hT : Tab W) (hO : U.parse (L s) true = some o) :
    Calls Tryz.prog 39 #[.string s] W (ParseP W o) := by
  have h1 : U.parse1 (L s) true = some o := by
    have : U.parse (L s) true = match U.parse1 (L s) true with
      | none => none
      | some none => some none
      | some (some v) => some (some v) := rfl
    rw [this] at hO
    cases h : U.parse1 (L s) true with
    | none => rw [h] at hO; exact absurd hO (by simp)
    | some x =>
      rw [h] at hO
      cases x <;> exact hO
  have CP := Lib.hid (i_parse s true o W hs hT h1)
  clear h1 hO hT
  go_enter Tryz.func39, Tryz.ntmps39
  go_wp2_with fail
  refine CP.out.mono ?_
  cases o with
  | none =>
    rintro e w1 ⟨b1, x, ⟨t, y, rfl⟩, rfl⟩
    have B1 := Lib.hid b1
    clear b1
    go_wp2_with fail
    go_ret2
    exact retP_no rfl ⟨_, _, rfl⟩ (B1.out.alloc B1.out.size _)
  | some v =>
    rintro e w1 ⟨b1, g, rfl, hg, u1⟩
    have B1 := Lib.hid b1
    have U1 := Lib.hid u1
    clear b1 u1
    go_wp2_with fail
    go_ret2
    exact ⟨B1.out, g, rfl, hg, U1.out⟩

set_option maxRecDepth 100000 in
set_option maxHeartbeats 3200000 in
theorem i_Parse (s : ByteArray) (o : Option V) (W : World) (hs : s.size ≤ 10000000) (hT : Tab W) (hO : U.parse (L s) false = some o) :
    Calls Tryz.prog 41 #[.string s] W (ParseP W o) := by
  have hss : Sm s := by unfold Sm; omega
  rw [parse_eq] at hO
  obtain ⟨a, H1⟩ : ∃ x, (U.cut 35 (L s)).1 = L x := ⟨S _, rfl⟩
  obtain ⟨f, H2⟩ : ∃ x, (U.cut 35 (L s)).2.1 = L x := ⟨S _, rfl⟩
  obtain ⟨b, H3⟩ : ∃ x, (U.cut 35 (L s)).2.2 = x := ⟨_, rfl⟩
  have HC : Hid (U.cut 35 (L s) = (L a, L f, b)) := by rw [← H1, ← H2, ← H3]; rfl
  have ha : a.size ≤ s.size := by have := U.cut_len1 35 (L s); rw [H1, U.len_L, U.len_L] at this; exact this
  have hf : f.size ≤ s.size := by have := U.cut_len2 35 (L s); rw [H2, U.len_L, U.len_L] at this; exact this
  have hsf : Sm f := by unfold Sm; omega
  rw [H1, H2, U.S_L] at hO
  clear H1 H2 H3
  cases hp : U.parse1 (L a) false with
  | none => rw [hp] at hO; exact absurd hO (by simp)
  | some q =>
    rw [hp] at hO
    have HO := Lib.hid hO
    have CP := Lib.hid (fun n => i_parse a false q (W.drewN n) (by omega) (hT.drewN n) hp)
    have HT := Lib.hid hT
    clear hO hp hT
    go_enter Tryz.func41, Tryz.ntmps41
    go_wp2_with fail
    refine (i_cut s _ a f 35 b _ hss rfl HC).mono ?_
    rintro e w1 ⟨rfl, ⟨n, rfl⟩⟩
    go_wp2_with fail
    refine (CP.out n).mono ?_
    cases q with
    | none =>
      rintro e w1 ⟨b1, x, ⟨t, y, rfl⟩, rfl⟩
      have ho : o = none := by have := HO.out; simpa using this.symm
      subst ho
      have B1 : Hid (Below W.heap.size W w1) := Lib.hid ((below_n (Below.refl _ _) n).trans b1)
      clear b1
      go_wp2_with fail
      go_ret2
      exact retP_no rfl ⟨_, _, rfl⟩ (B1.out.alloc B1.out.size _)
    | some v =>
      rintro e w1 ⟨b1, g, rfl, hg, u1⟩
      have B1 : Hid (Below W.heap.size W w1) := Lib.hid ((below_n (Below.refl _ _) n).trans b1)
      have U1 := Lib.hid u1
      have hg2 : W.heap.size ≤ g := hg
      clear b1 u1 hg
      by_cases he : L f = []
      · have h1 : f.toList = [] := by rw [U.toList_L]; exact he
        have ho : o = some v := by
          have := HO.out
          simp only [if_pos he] at this
          simpa using this.symm
        subst ho
        clear he HO
        go_wp2_with fail
        go_ret2
        exact ⟨B1.out, g, rfl, hg2, U1.out⟩
      · have h1 : (f.toList == []) = false := by rw [U.toList_L]; simpa using he
        have ho : (if (setFrag v f).2 = true then some (setFrag v f).1 else none) = o := by
          have := HO.out
          simp only [if_neg he] at this
          simpa using this
        have HO2 := Lib.hid ho
        have CS := Lib.hid (i_setFragment w1 g v f hsf (HT.out.below B1.out) U1.out)
        clear he HO ho
        go_wp2_with fail
        refine CS.out.mono ?_
        rintro e w2 ⟨o2, h2⟩
        have B2 : Hid (Below W.heap.size W w2) := Lib.hid (Only.below B1.out o2 B1.out.size hg2)
        cases hb : (setFrag v f).2
        · rw [hb, if_neg (by decide)] at h2
          have ho := HO2.out
          rw [hb, if_neg (by decide)] at ho
          subst ho
          obtain ⟨⟨x, ⟨t, y, rfl⟩, rfl⟩, _⟩ := h2
          clear o2 hb
          go_wp2_with fail
          go_ret2
          exact retP_no rfl ⟨_, _, rfl⟩ (B2.out.alloc B2.out.size _)
        · rw [hb, if_pos rfl] at h2
          have ho := HO2.out
          rw [hb, if_pos rfl] at ho
          subst ho
          obtain ⟨rfl, u2⟩ := h2
          have U2 := Lib.hid u2
          clear o2 hb u2
          go_wp2_with fail
          go_ret2
          exact ⟨B2.out, g, rfl, hg2, U2.out⟩
end Go.Proofs.YtphkohpphdcjhaaGreatDoor
namespace Go.Proofs.YtphkohpphdcjhaaGreatDoor
open Go.RowKit Go.Proofs.YtphkohpphdcjhaaGreatDoorW.PrintWords
open U (L S)

/-- A struct handed back alone. -/
theorem ret_V1 {fn : Func} {R : Ending → World → Prop} {p : Tmp} (hf : fn.results = #[.cell p 23]) {a : Act} {w : World} (g : Nat) (v : V)
    (hp : a.tmps.getD p undef = .pointer (some ⟨g, 0, none⟩)) (hd : a.defers = []) (hI : IsV w g v) (h : R (.returned v.val) w) : bodyPost Tryz.prog fn R .ret a w := by
  have hp' : a.tmps[p]?.getD undef = .pointer (some ⟨g, 0, none⟩) := by simpa using hp
  have hl := run_loadVar_row (P := Tryz.prog) w g 23 23 v.cells (0, 0) _ hI Tryz.underlying23 rfl (by kernel_rfl)
  refine bodyPost_ret (v := v.val) ?_ hd h
  simp [results, hf, hp', asAddr, hl]
/-- A struct and one more result handed back. -/
theorem ret_Vb {fn : Func} {R : Ending → World → Prop} {p q : Tmp} (hf : fn.results = #[.cell p 23, .tmp q]) {a : Act} {w : World} (g : Nat) (v : V) (x : Value)
    (hp : a.tmps.getD p undef = .pointer (some ⟨g, 0, none⟩)) (hq : a.tmps.getD q undef = x) (hd : a.defers = []) (hI : IsV w g v)
    (h : R (.returned (.tuple #[v.val, x])) w) : bodyPost Tryz.prog fn R .ret a w := by
  have hp' : a.tmps[p]?.getD undef = .pointer (some ⟨g, 0, none⟩) := by simpa using hp
  have hq' : a.tmps[q]?.getD undef = x := by simpa using hq
  have hl := run_loadVar_row (P := Tryz.prog) w g 23 23 v.cells (0, 0) _ hI Tryz.underlying23 rfl (by kernel_rfl)
  refine bodyPost_ret (v := .tuple #[v.val, x]) ?_ hd h
  simp [results, hf, hp', hq', asAddr, hl]

set_option maxHeartbeats 400000 in
theorem i_Username (W : World) (k : Nat) (a b : ByteArray) (f : Bool) (h : W.heap[k]? = some (.cells #[.string a, .string b, .bool f] 107 (0, 0))) :
    Calls Tryz.prog 66 #[.pointer (some ⟨k, 0, none⟩)] W fun e w' => e = .returned (.string a) ∧ W = w' := by
  have c0 := cell_at (o := 0) h rfl
  clear h
  go_enter Tryz.func66, Tryz.ntmps66
  go_wp2_with fail
  go_ret
  exact ⟨rfl, rfl⟩
set_option maxHeartbeats 400000 in
theorem i_Username_nil (W : World) : Calls Tryz.prog 66 #[.pointer none] W fun e w' => e = .returned (.string E) ∧ W = w' := by
  go_enter Tryz.func66, Tryz.ntmps66
  go_wp2_with fail
  go_ret
  exact ⟨rfl, rfl⟩
set_option maxHeartbeats 400000 in
theorem i_Password (W : World) (k : Nat) (a b : ByteArray) (f : Bool) (h : W.heap[k]? = some (.cells #[.string a, .string b, .bool f] 107 (0, 0))) :
    Calls Tryz.prog 67 #[.pointer (some ⟨k, 0, none⟩)] W fun e w' => e = .returned (.tuple #[.string b, .bool f]) ∧ Drawn0 W w' := by
  have c1 := cell_at (o := 1) h rfl
  have c2 := cell_at (o := 2) h rfl
  clear h
  go_enter Tryz.func67, Tryz.ntmps67
  go_wp2_with fail
  go_quiet (fail)
  go_wp2_with fail
  go_ret2
  exact ⟨rfl, ⟨_, rfl⟩⟩
set_option maxHeartbeats 400000 in
theorem i_Password_nil (W : World) : Calls Tryz.prog 67 #[.pointer none] W fun e w' => e = .returned (.tuple #[.string E, .bool false]) ∧ W = w' := by
  go_enter Tryz.func67, Tryz.ntmps67
  go_wp2_with fail
  go_ret2
  exact ⟨rfl, rfl⟩

/-- A reference without its user. -/
abbrev V.bare (v : V) : V := { v with user := E, pass := E, hasUser := false, hasPass := false }
theorem V.bare_eq {v : V} (hf : v.fair) (hu : v.hasUser = false) : v.bare = v := by
  obtain ⟨f1, f2⟩ := hf
  obtain ⟨f1, f3⟩ := f1 hu
  have f4 := f2 f3
  have e1 := U.L_nil f1
  have e2 := U.L_nil f4
  cases v
  simp only at hu e1 e2 f3
  subst hu e1 e2 f3
  rfl
/-- The two blocks of told. -/
structure Tl (w W : World) (k : Nat) (v : V) : Prop where
  r : IsV W w.heap.size V.zero
  u : IsV W k v
  b : Below w.heap.size w W
  k : w.heap.size < k
theorem Tl.keep {w W W' : World} {k : Nat} {v : V} (h : Tl w W k v) (hb : Below W.heap.size W W') : Tl w W' k v :=
  ⟨h.r.keep hb, h.u.keep hb, h.b.trans (hb.mono h.b.size), h.k⟩
theorem Tl.only {w W W' : World} {k : Nat} {v v' : V} (h : Tl w W k v) (ho : Only k W W') (hu : IsV W' k v') : Tl w W' k v' :=
  ⟨(ho.block _ (heap_lt h.r) (by have := h.k; omega)).trans h.r, hu, Only.below h.b ho h.b.size (by have := h.k; omega), h.k⟩
theorem Tl.set {w W : World} {k : Nat} {v v' : V} (h : Tl w W k v) (o : Nat) (x : Value) (hv : v.cells.setIfInBounds o x = v'.cells) : Tl w (W.setCell ⟨k, o, none⟩ x) k v' :=
  h.only ((Only.refl _ _).setCell _ _) ((heap_set h.u x).trans (by rw [hv]))
theorem Tl.ret {w W W' : World} {k : Nat} {v : V} (h : Tl w W k v) (o : Only w.heap.size W W') : Below w.heap.size w W' := Only.below h.b o h.b.size (Nat.le_refl _)

set_option maxRecDepth 100000 in
set_option maxHeartbeats 3200000 in
theorem i_told (W : World) (g : Nat) (v : V) (hg : IsU W g v) (hf : v.fair) :
    Calls Tryz.prog 40 #[.pointer (some ⟨g, 0, none⟩)] W fun e w' => e = .returned v.val ∧ Below W.heap.size W w' := by
  have HF := Lib.hid hf
  have hR := heap_new W (.cells V.zero.cells 23) _ rfl
  have hB : Below W.heap.size W (W.alloc (.cells V.zero.cells 23)) := (Below.refl _ _).alloc (Nat.le_refl _) _
  obtain ⟨u, h1, h2⟩ := hg.keep hB
  have hz : (W.alloc (.cells V.zero.cells 23)).heap.size = W.heap.size + 1 := by simp
  have HR := Lib.hid hR
  have HB := Lib.hid hB
  have HZ := Lib.hid hz
  have H1 := Lib.hid h1
  have H2 := Lib.hid h2
  clear hf hR hB hz h1 h2 hg
  go_enter Tryz.func40, Tryz.ntmps40
  go_wp2_with fail
  change Code.wp _ _ _ _ (W.alloc (.cells V.zero.cells 23))
  obtain ⟨W1, hW1⟩ : ∃ x, W.alloc (.cells V.zero.cells 23) = x := ⟨_, rfl⟩
  rw [hW1] at HR HB HZ H1 H2 ⊢
  clear hW1
  have c0 : W1.cell? ⟨g, 0, none⟩ = some (.string v.scheme) := cell_at H1.out rfl
  have c1 : W1.cell? ⟨g, 1, none⟩ = some (.string v.opq) := cell_at H1.out rfl
  have c2 : W1.cell? ⟨g, 2, none⟩ = some (u) := cell_at H1.out rfl
  have c3 : W1.cell? ⟨g, 3, none⟩ = some (.string v.host) := cell_at H1.out rfl
  have c4 : W1.cell? ⟨g, 4, none⟩ = some (.string v.path) := cell_at H1.out rfl
  have c5 : W1.cell? ⟨g, 5, none⟩ = some (.string v.fragment) := cell_at H1.out rfl
  have c6 : W1.cell? ⟨g, 6, none⟩ = some (.string v.rawQuery) := cell_at H1.out rfl
  have c7 : W1.cell? ⟨g, 7, none⟩ = some (.string v.rawPath) := cell_at H1.out rfl
  have c8 : W1.cell? ⟨g, 8, none⟩ = some (.string v.rawFragment) := cell_at H1.out rfl
  have c9 : W1.cell? ⟨g, 9, none⟩ = some (.bool v.forceQuery) := cell_at H1.out rfl
  have c10 : W1.cell? ⟨g, 10, none⟩ = some (.bool v.omitHost) := cell_at H1.out rfl
  have hlt := heap_lt H1.out
  go_region_held3 (fun w' => w'.cell? ⟨g, 0, none⟩ = some (.string v.scheme) ∧ w'.cell? ⟨g, 1, none⟩ = some (.string v.opq) ∧ w'.cell? ⟨g, 3, none⟩ = some (.string v.host) ∧ w'.cell? ⟨g, 4, none⟩ = some (.string v.path) ∧ w'.cell? ⟨g, 5, none⟩ = some (.string v.fragment) ∧ w'.cell? ⟨g, 6, none⟩ = some (.string v.rawQuery) ∧ w'.cell? ⟨g, 7, none⟩ = some (.string v.rawPath) ∧ w'.cell? ⟨g, 8, none⟩ = some (.string v.rawFragment) ∧ w'.cell? ⟨g, 9, none⟩ = some (.bool v.forceQuery) ∧ w'.cell? ⟨g, 10, none⟩ = some (.bool v.omitHost)) (go_keep) (fail)
  have hS1 : Tl W ((W1.alloc (.cells v.bare.cells 23)).drew) W1.heap.size v.bare := by
    have hz := HZ.out
    exact ⟨(Below.heap_alloc _ _ _ (by show W.heap.size < W1.heap.size; omega)).trans HR.out, heap_new _ _ _ rfl, below_n (HB.out.alloc HB.out.size _) 1, by omega⟩
  have hU1 : IsU ((W1.alloc (.cells v.bare.cells 23)).drew) g v := by
    have h1 : IsU W1 g v := ⟨u, H1.out, H2.out⟩
    exact (h1.keep ((Below.refl _ _).alloc (Nat.le_refl _) _)).drewN 1
  have hkg : g ≠ W1.heap.size := Nat.ne_of_lt hlt
  clear c0 c1 c2 c3 c4 c5 c6 c7 c8 c9 c10 H1 H2 HB HR hlt
  obtain ⟨wS, hwS⟩ : ∃ x, (W1.alloc (.cells v.bare.cells 23)).drew = x := ⟨_, rfl⟩
  change Exit.then _ _ _ _ ((W1.alloc (.cells v.bare.cells 23)).drew)
  rw [hwS] at hS1 hU1 ⊢
  obtain ⟨k, hk⟩ : ∃ k, W1.heap.size = k := ⟨_, rfl⟩
  rw [hk] at hS1 hkg ⊢
  have S1 := Lib.hid hS1
  have HKG := Lib.hid hkg
  obtain ⟨u2, k1, k2⟩ := hU1
  have c2 := cell_at (o := 2) k1 rfl
  have K1 := Lib.hid k1
  clear hS1 hkg k1 hk hwS HZ
  rcases k2 with ⟨hu, rfl⟩ | ⟨hu, h, rfl, hh⟩
  · have hv := V.bare_eq HF.out hu
    rw [hv] at S1
    clear hv hu
    go_wp2_with (first | (refine wpl_loadV rfl _ rfl _ _ rfl S1.out.u ?_) | (refine wpl_storeV rfl _ _ rfl _ _ _ rfl rfl S1.out.r ?_; intro wR hR oR))
    refine ret_V1 Tryz.results40 _ _ rfl rfl hR ?_
    exact ⟨rfl, S1.out.ret oR⟩
  · have HU := Lib.hid hu
    have HH := Lib.hid hh
    clear hu hh
    have d2 := cell_at (o := 2) S1.out.u rfl
    have d4 := cell_at (o := 4) S1.out.u rfl
    have ff := fun o => free_at (o := o) S1.out.u
    go_wp2_with fail
    refine (i_Username wS h _ _ _ HH.out).mono ?_
    rintro e w1 ⟨rfl, rfl⟩
    go_upto_region 4 with fail
    have hS2 := S1.out.set (v' := { v.bare with hasUser := true }) 4 (.bool true) rfl
    have hS3 := hS2.set (v' := { v.bare with hasUser := true, user := v.user }) 2 (.string v.user) rfl
    have hO : Only k wS ((wS.setCell ⟨k, 4, none⟩ (.bool true)).setCell ⟨k, 2, none⟩ (.string v.user)) := ((Only.refl k wS).setCell _ _).setCell _ _
    have c2' := cell_at (o := 2) ((hO.block g (heap_lt K1.out) HKG.out).trans K1.out) rfl
    have hne : h ≠ k := by
      rintro rfl
      have e1 := HH.out
      rw [S1.out.u] at e1
      simp at e1
    have hh := (hO.block h (heap_lt HH.out) hne).trans HH.out
    have S3 := Lib.hid hS3
    have HH3 := Lib.hid hh
    obtain ⟨W3, hW3⟩ : ∃ x, (wS.setCell ⟨k, 4, none⟩ (.bool true)).setCell ⟨k, 2, none⟩ (.string v.user) = x := ⟨_, rfl⟩
    rw [hW3] at S3 HH3 c2' ⊢
    clear hW3 hS2 hS3 hO c2 hne hh d2 d4 ff
    have d3 := fun n => cell_at (o := 3) (w := W3.drewN n) S3.out.u rfl
    have d5 := fun n => cell_at (o := 5) (w := W3.drewN n) S3.out.u rfl
    have ff := fun n o => free_at (o := o) (w := W3.drewN n) S3.out.u
    go_wp2_with fail
    refine (i_Password W3 h _ _ _ HH3.out).mono ?_
    rintro e w1 ⟨rfl, ⟨n, rfl⟩⟩
    have hv : { v.bare with hasUser := true, user := v.user, pass := v.pass, hasPass := v.hasPass } = v := by
      have := HU.out
      cases v
      simp only at this
      subst this
      rfl
    have S4 : Hid (Tl W (((W3.drewN n).setCell ⟨k, 3, none⟩ (.string v.pass)).setCell ⟨k, 5, none⟩ (.bool v.hasPass)) k v) := by
      have h1 : Tl W (W3.drewN n) k { v.bare with hasUser := true, user := v.user } := ⟨S3.out.r, S3.out.u, below_n S3.out.b n, S3.out.k⟩
      have h2 := (h1.set (v' := { v.bare with hasUser := true, user := v.user, pass := v.pass }) 3 (.string v.pass) rfl).set (v' := { v.bare with hasUser := true, user := v.user, pass := v.pass, hasPass := v.hasPass }) 5 (.bool v.hasPass) rfl
      rw [hv] at h2
      exact Lib.hid h2
    clear hv
    go_upto_region 5 with fail
    obtain ⟨W4, hW4⟩ : ∃ x, ((W3.drewN n).setCell ⟨k, 3, none⟩ (.string v.pass)).setCell ⟨k, 5, none⟩ (.bool v.hasPass) = x := ⟨_, rfl⟩
    rw [hW4] at S4 ⊢
    clear hW4 d3 d5 ff c2'
    go_wp2_with (first | (refine wpl_loadV rfl _ rfl _ _ rfl S4.out.u ?_) | (refine wpl_storeV rfl _ _ rfl _ _ _ rfl rfl S4.out.r ?_; intro wR hR oR))
    refine ret_V1 Tryz.results40 _ _ rfl rfl hR ?_
    exact ⟨rfl, S4.out.ret oR⟩
end Go.Proofs.YtphkohpphdcjhaaGreatDoor
namespace Go.Proofs.YtphkohpphdcjhaaGreatDoor
open Go.RowKit Go.Proofs.YtphkohpphdcjhaaGreatDoorW.PrintWords
open U (L S)

/-- What made hands back. -/
def MadeP (W : World) (v : V) (e : Ending) (w' : World) : Prop :=
  Below W.heap.size W w' ∧ ∃ g, e = .returned (.pointer (some ⟨g, 0, none⟩)) ∧ W.heap.size ≤ g ∧ IsU w' g v

set_option maxRecDepth 100000 in
set_option maxHeartbeats 3200000 in
theorem i_made (v : V) (W : World) (hf : v.fair) : Calls Tryz.prog 43 #[v.val] W (MadeP W v) := by
  have HF := Lib.hid hf
  clear hf
  obtain ⟨a, HA⟩ : ∃ x, Hid (v.hasUser = x) := ⟨_, rfl⟩
  obtain ⟨b, HB'⟩ : ∃ x, Hid (v.hasPass = x) := ⟨_, rfl⟩
  go_enter Tryz.func43, Tryz.ntmps43
  go_upto_region 2 with fail
  have hB1 : Below W.heap.size W (W.alloc (.cells v.cells 23)) := (Below.refl _ _).alloc (Nat.le_refl _) _
  have hB : Below W.heap.size W ((W.alloc (.cells v.cells 23)).alloc (.cells (v.bare.ucells (.pointer none)) 80)) := hB1.alloc hB1.size _
  have hI : IsV ((W.alloc (.cells v.cells 23)).alloc (.cells (v.bare.ucells (.pointer none)) 80)) W.heap.size v := (Below.heap_alloc _ _ _ (by simp)).trans (heap_new _ _ _ rfl)
  have hz : (W.alloc (.cells v.cells 23)).heap.size = W.heap.size + 1 := by simp
  have hU : IsU ((W.alloc (.cells v.cells 23)).alloc (.cells (v.bare.ucells (.pointer none)) 80)) (W.heap.size + 1) v.bare := ⟨_, heap_new _ _ _ hz.symm, .inl ⟨rfl, rfl⟩⟩
  have HB := Lib.hid hB
  have HI := Lib.hid hI
  have HU := Lib.hid hU
  clear hB1 hB hI hU hz
  obtain ⟨W2, hW2⟩ : ∃ x, (W.alloc (.cells v.cells 23)).alloc (.cells (v.bare.ucells (.pointer none)) 80) = x := ⟨_, rfl⟩
  change Code.wp _ _ _ _ ((W.alloc (.cells v.cells 23)).alloc (.cells (v.bare.ucells (.pointer none)) 80))
  rw [hW2] at HB HI HU ⊢
  clear hW2
  obtain ⟨g, hg⟩ : ∃ g, W.heap.size + 1 = g := ⟨_, rfl⟩
  have hgw : W.heap.size < g := by omega
  rw [hg] at HU ⊢
  clear hg
  have d2 : W2.cell? ⟨W.heap.size, 2, none⟩ = some (.string v.user) := cell_at HI.out rfl
  have d3 : W2.cell? ⟨W.heap.size, 3, none⟩ = some (.string v.pass) := cell_at HI.out rfl
  have d4 : W2.cell? ⟨W.heap.size, 4, none⟩ = some (.bool v.hasUser) := cell_at HI.out rfl
  have d5 : W2.cell? ⟨W.heap.size, 5, none⟩ = some (.bool v.hasPass) := cell_at HI.out rfl
  rw [HA.out] at d4
  rw [HB'.out] at d5
  cases a
  · have hv := V.bare_eq HF.out HA.out
    rw [hv] at HU
    clear hv
    go_wp2_with fail
    go_ret
    exact ⟨HB.out, g, rfl, by omega, HU.out⟩
  · obtain ⟨u, k1, k2⟩ := HU.out
    have K1 := Lib.hid k1
    have K2 := Lib.hid k2
    clear k1 k2
    cases b
    · have hpe : v.pass = E := U.L_nil (HF.out.2 HB'.out)
      go_wp2_with fail
      refine (i_User v.user W2).mono ?_
      rintro e w3 ⟨b3, k, rfl, hk, hc⟩
      have h3 : w3.heap[g]? = _ := (b3.block g (heap_lt K1.out)).trans K1.out
      have c2 := cell_at (o := 2) h3 rfl
      have f2 := free_at (o := 2) h3
      have HH3 := Lib.hid h3
      have HC := Lib.hid hc
      have HPE := Lib.hid hpe
      have B3 := Lib.hid (HB.out.trans (b3.mono HB.out.size))
      clear b3 hc h3 hpe
      go_wp2_with fail
      go_ret
      refine ⟨B3.out.setCell (by show _ ≤ g; omega) _, g, rfl, by omega, .pointer (some ⟨k, 0, none⟩), (heap_set HH3.out _).trans rfl, ?_⟩
      have hU : UserAt w3 v (.pointer (some ⟨k, 0, none⟩)) := .inr ⟨HA.out, k, rfl, by
        rw [HC.out]
        unfold V.who
        rw [HB'.out, HPE.out]⟩
      exact hU.only ((Only.refl _ _).setCell _ _) HH3.out (by decide)
    · go_wp2_with fail
      refine (i_UserPassword v.user v.pass W2).mono ?_
      rintro e w3 ⟨b3, k, rfl, hk, hc⟩
      have h3 : w3.heap[g]? = _ := (b3.block g (heap_lt K1.out)).trans K1.out
      have c2 := cell_at (o := 2) h3 rfl
      have f2 := free_at (o := 2) h3
      have HH3 := Lib.hid h3
      have HC := Lib.hid hc
      have B3 := Lib.hid (HB.out.trans (b3.mono HB.out.size))
      clear b3 hc h3
      go_wp2_with fail
      go_ret
      refine ⟨B3.out.setCell (by show _ ≤ g; omega) _, g, rfl, by omega, .pointer (some ⟨k, 0, none⟩), (heap_set HH3.out _).trans rfl, ?_⟩
      have hU : UserAt w3 v (.pointer (some ⟨k, 0, none⟩)) := .inr ⟨HA.out, k, rfl, by
        rw [HC.out]
        unfold V.who
        rw [HB'.out]⟩
      exact hU.only ((Only.refl _ _).setCell _ _) HH3.out (by decide)

/-- The texts whose lengths are looked at. -/
def V.ten (v : V) : List ByteArray := [v.scheme, v.opq, v.user, v.pass, v.host, v.path, v.rawPath, v.rawQuery, v.fragment, v.rawFragment]
theorem V.ten_le {v : V} {n : Nat} (h : v.Sm n) (k : Nat) (hk : k < 10) : (v.ten.getD k E).size ≤ n := by
  match k, hk with
  | 0, _ => exact h.scheme
  | 1, _ => exact h.opq
  | 2, _ => exact h.user
  | 3, _ => exact h.pass
  | 4, _ => exact h.host
  | 5, _ => exact h.path
  | 6, _ => exact h.rawPath
  | 7, _ => exact h.rawQuery
  | 8, _ => exact h.fragment
  | 9, _ => exact h.rawFragment
  | k + 10, h => omega
set_option maxRecDepth 100000 in
set_option maxHeartbeats 3200000 in
theorem i_fits (v : V) (W : World) (hv : v.Sm 4000) : Calls Tryz.prog 42 #[v.val] W fun e w' => e = .returned (.bool true) ∧ Below W.heap.size W w' := by
  have HV := Lib.hid hv
  clear hv
  go_enter Tryz.func42, Tryz.ntmps42
  go_wp2_with fail
  have hB1 : Below W.heap.size W (W.alloc (.cells v.cells 23)) := (Below.refl _ _).alloc (Nat.le_refl _) _
  have hB : Below W.heap.size W ((W.alloc (.cells v.cells 23)).alloc (.cells (v.ten.map Value.string).toArray 9)) := hB1.alloc hB1.size _
  have hI : ((W.alloc (.cells v.cells 23)).alloc (.cells (v.ten.map Value.string).toArray 9)).heap[W.heap.size + 1]? = some (.cells (v.ten.map Value.string).toArray 9 (0, 0)) := heap_new _ _ _ (by simp)
  have HB := Lib.hid hB
  have HI := Lib.hid hI
  clear hB1 hB hI
  obtain ⟨W2, hW2⟩ : ∃ x, (W.alloc (.cells v.cells 23)).alloc (.cells (v.ten.map Value.string).toArray 9) = x := ⟨_, rfl⟩
  change Code.wp _ _ _ _ ((W.alloc (.cells v.cells 23)).alloc (.cells (v.ten.map Value.string).toArray 9))
  rw [hW2] at HB HI ⊢
  clear hW2
  go_loop [27] (fun i => ∃ k : Nat, k ≤ 10 ∧ i = .int .i64 k) (fun i => 10 - (intOf i).toNat)
  case atStart => exact ⟨0, by omega, rfl⟩
  case round =>
    obtain ⟨k, hk, rfl⟩ := hrel
    by_cases hlt : k < 10
    · obtain ⟨t, ht⟩ : ∃ t, v.ten.getD k E = t := ⟨_, rfl⟩
      have hc : W2.cell? ⟨W.heap.size + 1, k, none⟩ = some (.string t) := by
        refine cell_at HI.out ?_
        rw [← ht]
        simp only [List.getElem?_toArray, List.getElem?_map, List.getD]
        rw [List.getElem?_eq_getElem (show k < v.ten.length from hlt)]
        rfl
      have hsz : (t.size : Int) ≤ 4000 := by
        have := V.ten_le HV.out k hlt
        rw [ht] at this
        omega
      clear ht
      go_wp2_with fail
      exact ⟨⟨k + 1, by omega, by go_num⟩, by simp [intOf]; omega⟩
    · obtain rfl : k = 10 := by omega
      go_wp2_with fail
      go_ret
      exact ⟨rfl, HB.out⟩
end Go.Proofs.YtphkohpphdcjhaaGreatDoor
namespace Go.Proofs.YtphkohpphdcjhaaGreatDoor
open Go.RowKit Go.Proofs.YtphkohpphdcjhaaGreatDoorW.PrintWords
open U (L S)

theorem parse_Sm {s : ByteArray} {q : Bool} {v : V} {n : Nat} (e : U.parse (L s) q = some (some v)) (hs : s.size ≤ n) : v.Sm n := by
  have h1 := U.parse_sum e
  have h2 := U.parse_raw e
  simp only [U.sum, U.len_L] at h1 h2
  exact ⟨by omega, by omega, by omega, by omega, by omega, by omega, by omega, by omega, by omega, by omega⟩

/-- What the thin package's Parse hands back. -/
def ReadP (W : World) (o : Option V) (e : Ending) (w' : World) : Prop :=
  Below W.heap.size W w' ∧ match o with
  | none => e = .returned (.tuple #[V.zero.val, .bool false])
  | some v => e = .returned (.tuple #[v.val, .bool true])
/-- The block of what is handed back. -/
structure Rs (w W : World) : Prop where
  r : IsV W w.heap.size V.zero
  b : Below w.heap.size w W
theorem Rs.new (W : World) : Rs W (W.alloc (.cells V.zero.cells 23)) := ⟨heap_new _ _ _ rfl, (Below.refl _ _).alloc (Nat.le_refl _) _⟩
theorem Rs.keep {w W W' : World} (h : Rs w W) (hb : Below W.heap.size W W') : Rs w W' := ⟨h.r.keep hb, h.b.trans (hb.mono h.b.size)⟩
theorem Rs.ret {w W W' : World} (h : Rs w W) (o : Only w.heap.size W W') : Below w.heap.size w W' := Only.below h.b o h.b.size (Nat.le_refl _)

set_option maxRecDepth 100000 in
set_option maxHeartbeats 3200000 in
theorem t_Parse (s : ByteArray) (o : Option V) (W : World) (hs : s.size ≤ 4000) (hT : Tab W) (hO : U.parse (L s) false = some o) :
    Calls Tryz.prog 15 #[.string s] W (ReadP W o) := by
  have hsz : (s.size : Int) ≤ 4000 := by omega
  have R0 := Lib.hid (Rs.new W)
  have CP := Lib.hid (i_Parse s o (W.alloc (.cells V.zero.cells 23)) (by omega) (hT.alloc _) hO)
  have HO := Lib.hid hO
  clear hT hO
  go_enter Tryz.func15, Tryz.ntmps15
  go_upto_region 3 with fail
  change Code.wp _ _ _ _ (W.alloc (.cells V.zero.cells 23))
  obtain ⟨W1, hW⟩ : ∃ x, W.alloc (.cells V.zero.cells 23) = x := ⟨_, rfl⟩
  rw [hW] at R0 CP ⊢
  clear hW
  go_wp2_with fail
  refine CP.out.mono ?_
  cases o with
  | none =>
    rintro e w2 ⟨b2, x, ⟨t, y, rfl⟩, rfl⟩
    have R2 := Lib.hid (R0.out.keep b2)
    clear b2
    go_wp2_with (refine wpl_storeV rfl _ _ rfl _ V.zero V.zero rfl rfl R2.out.r ?_; intro wR hR oR)
    refine ret_Vb Tryz.results15 _ V.zero _ rfl rfl rfl hR ?_
    exact ⟨R2.out.ret oR, rfl⟩
  | some v =>
    rintro e w2 ⟨b2, g, rfl, hg, u2⟩
    have R2 := Lib.hid (R0.out.keep b2)
    have U2 := Lib.hid u2
    clear b2 u2
    go_wp2_with fail
    refine (i_told w2 g v U2.out (U.parse_fair HO.out)).mono ?_
    rintro e w3 ⟨rfl, b3⟩
    have R3 := Lib.hid (R2.out.keep b3)
    clear b3
    go_wp2_with (refine wpl_storeV rfl _ _ rfl _ V.zero v rfl rfl R3.out.r ?_; intro wR hR oR)
    refine ret_Vb Tryz.results15 _ v _ rfl rfl rfl hR ?_
    exact ⟨R3.out.ret oR, rfl⟩

set_option maxRecDepth 100000 in
set_option maxHeartbeats 3200000 in
theorem t_ParseRequest (s : ByteArray) (o : Option V) (W : World) (hs : s.size ≤ 4000) (hT : Tab W) (hO : U.parse (L s) true = some o) :
    Calls Tryz.prog 13 #[.string s] W (ReadP W o) := by
  have hsz : (s.size : Int) ≤ 4000 := by omega
  have R0 := Lib.hid (Rs.new W)
  have CP := Lib.hid (i_ParseRequest s o (W.alloc (.cells V.zero.cells 23)) (by omega) (hT.alloc _) hO)
  have HO := Lib.hid hO
  clear hT hO
  go_enter Tryz.func13, Tryz.ntmps13
  go_upto_region 3 with fail
  change Code.wp _ _ _ _ (W.alloc (.cells V.zero.cells 23))
  obtain ⟨W1, hW⟩ : ∃ x, W.alloc (.cells V.zero.cells 23) = x := ⟨_, rfl⟩
  rw [hW] at R0 CP ⊢
  clear hW
  go_wp2_with fail
  refine CP.out.mono ?_
  cases o with
  | none =>
    rintro e w2 ⟨b2, x, ⟨t, y, rfl⟩, rfl⟩
    have R2 := Lib.hid (R0.out.keep b2)
    clear b2
    go_wp2_with (refine wpl_storeV rfl _ _ rfl _ V.zero V.zero rfl rfl R2.out.r ?_; intro wR hR oR)
    refine ret_Vb Tryz.results13 _ V.zero _ rfl rfl rfl hR ?_
    exact ⟨R2.out.ret oR, rfl⟩
  | some v =>
    rintro e w2 ⟨b2, g, rfl, hg, u2⟩
    have R2 := Lib.hid (R0.out.keep b2)
    have U2 := Lib.hid u2
    clear b2 u2
    go_wp2_with fail
    refine (i_told w2 g v U2.out (U.parse_fair HO.out)).mono ?_
    rintro e w3 ⟨rfl, b3⟩
    have R3 := Lib.hid (R2.out.keep b3)
    clear b3
    go_wp2_with (refine wpl_storeV rfl _ _ rfl _ V.zero v rfl rfl R3.out.r ?_; intro wR hR oR)
    refine ret_Vb Tryz.results13 _ v _ rfl rfl rfl hR ?_
    exact ⟨R3.out.ret oR, rfl⟩
end Go.Proofs.YtphkohpphdcjhaaGreatDoor
