/- The walk of the reference's Resolve. -/
import Derived.Test.YtphkohpphdcjhaaGreatDoorSpecK
import Derived.Test.YtphkohpphdcjhaaGreatDoorRegC
set_option linter.unusedSimpArgs false
set_option linter.unusedVariables false
namespace Go.Proofs.YtphkohpphdcjhaaGreatDoor
open Go.RowKit Go.Proofs.YtphkohpphdcjhaaGreatDoorW.PrintWords Go.Proofs.YtphkohpphdcjhaaGreatDoorW.PrintLast
open U (L S)

/-- The four blocks of Resolve: the base, the reference, what is handed back, what is built. -/
structure Rv (W : World) (g2 g3 g4 g5 : Nat) (b r u : V) (w : World) : Prop where
  ib : IsV w g2 b
  ir : IsV w g3 r
  iz : IsV w g4 V.zero
  iu : IsV w g5 u
  below : Below W.heap.size W w
  o1 : W.heap.size ≤ g2
  o2 : g2 < g3
  o3 : g3 < g4
  o4 : g4 < g5
theorem Rv.keep {W w w' : World} {g2 g3 g4 g5 : Nat} {b r u : V} (h : Rv W g2 g3 g4 g5 b r u w) (hb : Below w.heap.size w w') : Rv W g2 g3 g4 g5 b r u w' :=
  ⟨h.ib.keep hb, h.ir.keep hb, h.iz.keep hb, h.iu.keep hb, h.below.trans (hb.mono h.below.size), h.o1, h.o2, h.o3, h.o4⟩
theorem Rv.only {W w w' : World} {g2 g3 g4 g5 : Nat} {b r u u' : V} (h : Rv W g2 g3 g4 g5 b r u w) (ho : Only g5 w w') (hu : IsV w' g5 u') : Rv W g2 g3 g4 g5 b r u' w' :=
  have := h.o1; have := h.o2; have := h.o3; have := h.o4
  ⟨(ho.block _ (heap_lt h.ib) (by omega)).trans h.ib, (ho.block _ (heap_lt h.ir) (by omega)).trans h.ir, (ho.block _ (heap_lt h.iz) (by omega)).trans h.iz, hu, Only.below h.below ho h.below.size (by omega), h.o1, h.o2, h.o3, h.o4⟩
theorem Rv.set {W w : World} {g2 g3 g4 g5 : Nat} {b r u u' : V} (h : Rv W g2 g3 g4 g5 b r u w) (o : Nat) (x : Value) (hu : u.cells.setIfInBounds o x = u'.cells) : Rv W g2 g3 g4 g5 b r u' (w.setCell ⟨g5, o, none⟩ x) :=
  h.only ((Only.refl _ _).setCell _ _) ((heap_set h.iu x).trans (by rw [hu]))
theorem Rv.ret {W w w' : World} {g2 g3 g4 g5 : Nat} {b r u : V} (h : Rv W g2 g3 g4 g5 b r u w) (ho : Only g4 w w') : Below W.heap.size W w' :=
  have := h.o1; have := h.o2; have := h.o3
  Only.below h.below ho h.below.size (by omega)
theorem Rv.drew {W w : World} {g2 g3 g4 g5 : Nat} {b r u : V} (h : Rv W g2 g3 g4 g5 b r u w) : Rv W g2 g3 g4 g5 b r u w.drew := h.keep ⟨rfl, rfl, rfl, Nat.le_refl _, fun _ _ => rfl⟩
theorem Rv.noHost {W w : World} {g2 g3 g4 g5 : Nat} {b r u : V} (h : Rv W g2 g3 g4 g5 b r u w) :
    Rv W g2 g3 g4 g5 b r (U.noHost u) ((((((w.setCell ⟨g5, 2, none⟩ (.string ⟨#[]⟩)).setCell ⟨g5, 3, none⟩ (.string ⟨#[]⟩)).setCell ⟨g5, 4, none⟩ (.bool false)).setCell ⟨g5, 5, none⟩ (.bool false)).setCell ⟨g5, 6, none⟩ (.string ⟨#[]⟩)).setCell ⟨g5, 7, none⟩ (.string ⟨#[]⟩)) :=
  (((((h.set (u' := { u with user := E }) 2 _ rfl).set (u' := { u with user := E, pass := E }) 3 _ rfl).set (u' := { u with user := E, pass := E, hasUser := false }) 4 _ rfl).set (u' := { u with user := E, pass := E, hasUser := false, hasPass := false }) 5 _ rfl).set (u' := { u with user := E, pass := E, hasUser := false, hasPass := false, host := E }) 6 _ rfl).set 7 _ rfl

/-! ### How long a joined path is -/
theorem els_sum : ∀ l : U.B, ((U.els l).map (fun e => e.length + 1)).sum = l.length + 1
  | [] => rfl
  | c :: t => by
    have ih := els_sum t
    unfold U.els at ih ⊢
    show ((if c = 47 then [] :: Lib.Pa.els t else match Lib.Pa.els t with
        | e :: r => (c :: e) :: r
        | [] => [[c]]).map (fun e => e.length + 1)).sum = _
    by_cases hc : c = 47
    · rw [if_pos hc, List.map_cons, List.sum_cons, ih]
      simp
      omega
    · rw [if_neg hc]
      have hne := U.els_ne t
      unfold U.els at hne
      cases h : Lib.Pa.els t with
      | nil => exact absurd h hne
      | cons e r =>
        rw [h] at ih
        rw [List.map_cons, List.sum_cons] at ih
        have ih' : (e.length + 1) + (r.map (fun x : U.B => x.length + 1)).sum = t.length + 1 := ih
        show ((c :: e).length + 1) + (r.map (fun x : U.B => x.length + 1)).sum = t.length + 1 + 1
        rw [List.length_cons]
        omega
theorem jStep_len (o e : U.B) (f : Bool) : (U.jStep (o, f) e).1.length + 1 ≤ (o.length + 1) + (e.length + 1) := by
  unfold U.jStep
  split
  · show o.length + 1 ≤ _
    omega
  · split
    · split
      · show (o.take _).length + 1 ≤ _
        rw [List.length_take]
        omega
      · rename_i h _
        show 1 + 1 ≤ _
        rw [h]
        simp
    · show ((if f = true then o else o ++ [47]) ++ e).length + 1 ≤ _
      rw [List.length_append]
      cases f <;> simp <;> omega
theorem jFold_len : ∀ (es : List U.B) (st : U.B × Bool), (es.foldl U.jStep st).1.length + 1 ≤ st.1.length + 1 + (es.map (fun e => e.length + 1)).sum
  | [], _ => by simp
  | e :: es, (o, f) => by
    have h1 := jFold_len es (U.jStep (o, f) e)
    have h2 := jStep_len o e f
    simp only [List.foldl_cons, List.map_cons, List.sum_cons]
    omega
theorem joined_len (b r : U.B) : (U.joined b r).length ≤ b.length + r.length + 4 := by
  have hf : (U.jFull b r).length ≤ b.length + r.length := by
    unfold U.jFull
    split
    · omega
    · split
      · rw [List.length_append, List.length_take]; omega
      · omega
  unfold U.joined
  split
  · simp
  · have h1 := jFold_len (U.els (U.jFull b r)) ([47], true)
    rw [els_sum] at h1
    have h2 : ∀ o e : U.B, (U.jEnd o e).length ≤ o.length + 1 := by
      intro o e
      have h3 : (U.jEnd1 o e).length ≤ o.length + 1 := by
        unfold U.jEnd1
        split <;> simp
      unfold U.jEnd
      split
      · rw [List.length_tail]; omega
      · exact h3
    have h4 := h2 ((U.els (U.jFull b r)).foldl U.jStep ([47], true)).1 ((U.els (U.jFull b r)).getLastD [])
    unfold U.jAll
    simp only [List.length_cons, List.length_nil] at h1
    omega

theorem ite_iff {α : Type} {p q : Prop} [Decidable p] [Decidable q] (h : p ↔ q) {a b c d : α} (h1 : a = c) (h2 : b = d) : (if p then a else b) = if q then c else d := by
  by_cases hp : p
  · rw [if_pos hp, if_pos (h.1 hp), h1]
  · rw [if_neg hp, if_neg (fun hq => hp (h.2 hq)), h2]
/-- What Resolve hands back, by its ways. -/
def rU (b r : V) (es : Bool) : V := { r with scheme := if es = true then b.scheme else r.scheme }
def rQ (b u : V) (q f : Bool) : V := { u with rawQuery := if q = true then b.rawQuery else u.rawQuery, fragment := if f = true then b.fragment else u.fragment, rawFragment := if f = true then b.rawFragment else u.rawFragment }
def rH (b u : V) : V := { u with host := b.host, user := b.user, pass := b.pass, hasUser := b.hasUser, hasPass := b.hasPass }
theorem resolve_is (b r : V) (es c1 eo q f c3 : Bool) (h1 : em r.scheme = es) (h2 : (!es || !em r.host || r.hasUser) = c1) (h3 : em r.opq = eo) (h4 : (em r.path && !r.forceQuery && em r.rawQuery) = q) (h5 : (q && em r.fragment) = f) (h6 : (em r.path && !em b.opq) = c3) :
    U.resolve b r = if c1 = true then (U.setPath (rU b r es) (S (U.joined (U.escPath r) []))).1
      else if eo = false then U.noHost (rU b r es)
      else if c3 = true then U.noHost { rQ b (rU b r es) q f with opq := b.opq }
      else (U.setPath (rH b (rQ b (rU b r es) q f)) (S (U.joined (U.escPath b) (U.escPath r)))).1 := by
  subst h1 h2 h3 h4 h5 h6
  have t1 : (L r.scheme ≠ [] ∨ L r.host ≠ [] ∨ r.hasUser = true) ↔ (!em r.scheme || !em r.host || r.hasUser) = true := by
    simp [em, or_assoc]
  have t2 : decide (L r.path = [] ∧ r.forceQuery = false ∧ L r.rawQuery = []) = (em r.path && !r.forceQuery && em r.rawQuery) := by
    rw [Bool.eq_iff_iff]
    simp [em, and_assoc]
  have t3 : (L r.path = [] ∧ L b.opq ≠ []) ↔ (em r.path && !em b.opq) = true := by simp [em]
  have t4 : (em r.scheme = true) ↔ L r.scheme = [] := by simp [em]
  have t5 : L r.opq ≠ [] ↔ em r.opq = false := by simp [em]
  have t6 : decide (L r.fragment = []) = em r.fragment := rfl
  have h4 : ∀ x y : ByteArray, (if L r.scheme = [] then x else y) = if em r.scheme = true then x else y := fun x y => ite_iff t4.symm rfl rfl
  simp only [U.resolve, t2, t6, h4]
  exact ite_iff t1 rfl (ite_iff t5 rfl (ite_iff t3 rfl rfl))

set_option maxRecDepth 100000 in
set_option maxHeartbeats 12800000 in
theorem c_Resolve (W : World) (b r : V) (hb : b.Sm 4000) (hr : r.Sm 4000) :
    Calls Tryz.prog 28 #[b.val, r.val] W fun e w' => e = .returned (U.resolve b r).val ∧ Below W.heap.size W w' := by
  obtain ⟨o, HO⟩ : ∃ o, Hid (U.resolve b r = o) := ⟨_, rfl⟩
  rw [HO.out]
  have HB := Lib.hid hb
  have HR := Lib.hid hr
  clear hb hr
  obtain ⟨es, HES⟩ : ∃ x, Hid (em r.scheme = x) := ⟨_, rfl⟩
  obtain ⟨eh, HEH⟩ : ∃ x, Hid (em r.host = x) := ⟨_, rfl⟩
  obtain ⟨hu, HHU⟩ : ∃ x, Hid (r.hasUser = x) := ⟨_, rfl⟩
  obtain ⟨eo, HEO⟩ : ∃ x, Hid (em r.opq = x) := ⟨_, rfl⟩
  obtain ⟨ep, HEP⟩ : ∃ x, Hid (em r.path = x) := ⟨_, rfl⟩
  obtain ⟨fq, HFQ⟩ : ∃ x, Hid (r.forceQuery = x) := ⟨_, rfl⟩
  obtain ⟨eq, HEQ⟩ : ∃ x, Hid (em r.rawQuery = x) := ⟨_, rfl⟩
  obtain ⟨ef, HEF⟩ : ∃ x, Hid (em r.fragment = x) := ⟨_, rfl⟩
  obtain ⟨bo, HBO⟩ : ∃ x, Hid (em b.opq = x) := ⟨_, rfl⟩
  obtain ⟨c1, HC1⟩ : ∃ x, Hid ((!es || !eh || hu) = x) := ⟨_, rfl⟩
  obtain ⟨q, HQ⟩ : ∃ x, Hid ((ep && !fq && eq) = x) := ⟨_, rfl⟩
  obtain ⟨f, HF⟩ : ∃ x, Hid ((q && ef) = x) := ⟨_, rfl⟩
  obtain ⟨c3, HC3⟩ : ∃ x, Hid ((ep && !bo) = x) := ⟨_, rfl⟩
  have HIS : Hid (o = _) := Lib.hid (HO.out.symm.trans (resolve_is b r es c1 eo q f c3 HES.out (by rw [HEH.out, HHU.out]; exact HC1.out) HEO.out (by rw [HEP.out, HFQ.out, HEQ.out]; exact HQ.out) (by rw [HEF.out]; exact HF.out) (by rw [HEP.out, HBO.out]; exact HC3.out)))
  have hB1 : Below W.heap.size W (((W.alloc (.cells b.cells 23)).alloc (.cells r.cells 23)).alloc (.cells V.zero.cells 23)) := (((Below.refl _ _).alloc (Nat.le_refl _) _).alloc (by simp) _).alloc (by simp; omega) _
  have hIb : IsV (((W.alloc (.cells b.cells 23)).alloc (.cells r.cells 23)).alloc (.cells V.zero.cells 23)) W.heap.size b := (Below.heap_alloc _ _ _ (by simp; omega)).trans ((Below.heap_alloc _ _ _ (by simp)).trans (heap_new _ _ _ rfl))
  have hIr : IsV (((W.alloc (.cells b.cells 23)).alloc (.cells r.cells 23)).alloc (.cells V.zero.cells 23)) (W.heap.size + 1) r := (Below.heap_alloc _ _ _ (by simp)).trans (heap_new _ _ _ (by simp))
  have hIz : IsV (((W.alloc (.cells b.cells 23)).alloc (.cells r.cells 23)).alloc (.cells V.zero.cells 23)) (W.heap.size + 1 + 1) V.zero := heap_new _ _ _ (by simp)
  have hsz : (((W.alloc (.cells b.cells 23)).alloc (.cells r.cells 23)).alloc (.cells V.zero.cells 23)).heap.size = W.heap.size + 3 := by simp
  have HB1 := Lib.hid hB1
  have HIB := Lib.hid hIb
  have HIR := Lib.hid hIr
  have HIZ := Lib.hid hIz
  have HSZ := Lib.hid hsz
  clear hB1 hIb hIr hIz hsz
  go_enter Tryz.func28, Tryz.ntmps28
  go_upto_region 1 with fail
  change Code.wp _ _ _ _ (((W.alloc (.cells b.cells 23)).alloc (.cells r.cells 23)).alloc (.cells V.zero.cells 23))
  obtain ⟨W1, hW1⟩ : ∃ x, (((W.alloc (.cells b.cells 23)).alloc (.cells r.cells 23)).alloc (.cells V.zero.cells 23)) = x := ⟨_, rfl⟩
  rw [hW1] at HB1 HIB HIR HIZ HSZ ⊢
  clear hW1
  obtain ⟨g2, hg2⟩ : ∃ g, W.heap.size = g := ⟨_, rfl⟩
  obtain ⟨g3, hg3⟩ : ∃ g, W.heap.size + 1 = g := ⟨_, rfl⟩
  obtain ⟨g4, hg4⟩ : ∃ g, W.heap.size + 1 + 1 = g := ⟨_, rfl⟩
  rw [hg2] at HIB
  rw [hg4] at HIZ
  rw [hg3] at HIR
  rw [hg4, hg3, hg2]
  have HG : Hid (W.heap.size = g2 ∧ g3 = g2 + 1 ∧ g4 = g2 + 2 ∧ W1.heap.size = g2 + 3) := Lib.hid ⟨hg2, by omega, by omega, by have := HSZ.out; omega⟩
  clear hg2 hg3 hg4 HSZ
  go_upto_region 2 with (refine wpl_loadV rfl _ rfl _ _ rfl HIR.out ?_)
  have hU : IsV (W1.alloc (.cells r.cells 23)) W1.heap.size r := heap_new _ _ _ rfl
  have hB2 : Below W1.heap.size W1 (W1.alloc (.cells r.cells 23)) := (Below.refl _ _).alloc (Nat.le_refl _) _
  have hR : Rv W g2 g3 g4 W1.heap.size b r r (W1.alloc (.cells r.cells 23)) := by
    have hg := HG.out
    exact ⟨HIB.out.keep hB2, HIR.out.keep hB2, HIZ.out.keep hB2, hU, HB1.out.trans (hB2.mono HB1.out.size), by omega, by omega, by omega, by omega⟩
  change Code.wp _ _ _ _ (W1.alloc (.cells r.cells 23))
  obtain ⟨W2, hW2⟩ : ∃ x, W1.alloc (.cells r.cells 23) = x := ⟨_, rfl⟩
  obtain ⟨g5, hg5⟩ : ∃ x, W1.heap.size = x := ⟨_, rfl⟩
  rw [hg5, hW2] at hR
  rw [hg5, hW2]
  have R2 := Lib.hid hR
  clear hR hU hB2 hW2 hg5 HG HIB HIR HIZ HB1
  have r0 : W2.cell? ⟨g3, 0, none⟩ = some (.string r.scheme) := cell_at R2.out.ir rfl
  go_cut [9] (fun t wx => t = .bool es ∧ wx = W2)
  case first =>
    rcases em_ways _ _ HES with ⟨rfl, x1⟩ | ⟨rfl, x1⟩
    all_goals
      go_wp2_with fail
      go_meet
      exact ⟨rfl, rfl⟩
  obtain ⟨rfl, e⟩ := hcut
  obtain rfl := e.symm
  go_upto_if 9 with fail
  obtain ⟨u1, HU1⟩ : ∃ x, Hid (rU b r es = x) := ⟨_, rfl⟩
  rw [HU1.out] at HIS
  go_cut [] (fun wx => Hid (Rv W g2 g3 g4 g5 b r u1 wx))
  case first =>
    cases es
    · go_wp2_with fail
      go_meet
      rw [← HU1.out]
      exact R2
    · have b0 : W2.cell? ⟨g2, 0, none⟩ = some (.string b.scheme) := cell_at R2.out.ib rfl
      have u0 := free_at (o := 0) R2.out.iu
      have u0c : W2.cell? ⟨g5, 0, none⟩ = some (.string r.scheme) := cell_at R2.out.iu rfl
      go_wp2_with fail
      go_meet
      rw [← HU1.out]
      exact Lib.hid (R2.out.set 0 _ rfl)
  have R3 := hcut
  clear hcut R2 r0
  obtain ⟨W3, hW3⟩ : ∃ x, wc = x := ⟨_, rfl⟩
  rw [hW3] at R3 ⊢
  clear hW3
  have HPR : Hid (Sm r.path ∧ Sm r.rawPath) := by
    have h1 := HR.out.path
    have h2 := HR.out.rawPath
    exact Lib.hid ⟨by unfold Sm; omega, by unfold Sm; omega⟩
  have HPB : Hid (Sm b.path ∧ Sm b.rawPath) := by
    have h1 := HB.out.path
    have h2 := HB.out.rawPath
    exact Lib.hid ⟨by unfold Sm; omega, by unfold Sm; omega⟩
  have her : (S (U.escPath r)).size ≤ 12000 := by
    have h1 := U.escPath_len r
    have h2 := HR.out.path
    rw [U.len_L] at h1
    rw [U.size_S]
    omega
  have heb : (S (U.escPath b)).size ≤ 12000 := by
    have h1 := U.escPath_len b
    have h2 := HB.out.path
    rw [U.len_L] at h1
    rw [U.size_S]
    omega
  have r0 : W3.cell? ⟨g3, 0, none⟩ = some (.string r.scheme) := cell_at R3.out.ir rfl
  have r6 : W3.cell? ⟨g3, 6, none⟩ = some (.string r.host) := cell_at R3.out.ir rfl
  have r4 : W3.cell? ⟨g3, 4, none⟩ = some (.bool r.hasUser) := cell_at R3.out.ir rfl
  rw [HHU.out] at r4
  go_upto_region 4 with fail
  go_cut [13] (fun t wx => t = .bool c1 ∧ wx = W3)
  case first =>
    rcases em_ways _ _ HES with ⟨rfl, x1⟩ | ⟨rfl, x1⟩
    · rcases em_ways _ _ HEH with ⟨rfl, x2⟩ | ⟨rfl, x2⟩
      · go_wp2_with fail
        go_meet
        exact ⟨by rw [← HC1.out]; rfl, rfl⟩
      · go_wp2_with fail
        go_meet
        exact ⟨by rw [← HC1.out]; rfl, rfl⟩
    · go_wp2_with fail
      go_meet
      exact ⟨by rw [← HC1.out]; rfl, rfl⟩
  obtain ⟨rfl, e⟩ := hcut
  obtain rfl := e.symm
  clear r0 r6 r4
  cases c1
  case true =>
    obtain ⟨er, HER⟩ : ∃ x, Hid (S (U.escPath r) = x) := ⟨_, Lib.hid rfl⟩
    rw [HER.out] at her
    obtain ⟨p, HP⟩ : ∃ x, Hid (S (U.joined (L er) []) = x) := ⟨_, Lib.hid rfl⟩
    have hp : p.size ≤ 30000 := by
      have := joined_len (L er) []
      rw [U.len_L] at this
      rw [← HP.out, U.size_S]
      simp at this
      omega
    have hsp : Sm p := by unfold Sm; omega
    have HSP := Lib.hid hsp
    have HIS2 : Hid (o = (U.setPath u1 p).1) := by
      rw [HIS.out, if_pos rfl, ← HP.out, ← HER.out]
      exact Lib.hid rfl
    have CE := Lib.hid (c_escPath W3 r HPR.out)
    rw [HER.out] at CE
    clear hsp
    go_wp2_with (refine wpl_loadV rfl _ rfl _ _ rfl R3.out.ir ?_)
    refine CE.out.mono ?_
    rintro e w4 ⟨rfl, b4⟩
    have R4 := Lib.hid (R3.out.keep b4)
    clear b4 R3
    go_wp2_with fail
    refine (c_joined er ⟨#[]⟩ w4 (by omega) (by decide)).mono ?_
    rintro e w5 ⟨rfl, d5⟩
    have R5 := Lib.hid (R4.out.keep d5.below)
    rw [show S (U.joined (L er) (L ⟨#[]⟩)) = p from HP.out]
    clear d5 R4
    go_wp2_with fail
    refine (c_setPath w5 g5 u1 p HSP.out R5.out.iu).mono ?_
    rintro e w6 ⟨rfl, u6, o6⟩
    have R6 := Lib.hid (R5.out.only o6 u6)
    clear u6 o6 R5
    go_wp2_with (first | (refine wpl_loadV rfl _ rfl _ _ rfl R6.out.iu ?_) | (refine wpl_storeV rfl _ _ rfl _ _ _ rfl rfl R6.out.iz ?_; intro wR hR oR))
    refine ret_V1 Tryz.results28 _ _ rfl rfl hR ?_
    exact ⟨by rw [HIS2.out], R6.out.ret oR⟩
  case false =>
  have r1 : W3.cell? ⟨g3, 1, none⟩ = some (.string r.opq) := cell_at R3.out.ir rfl
  go_upto_region 7 with fail
  go_cut [31] (fun t wx => t = .bool (!eo) ∧ wx = W3)
  case first =>
    rcases em_ways _ _ HEO with ⟨rfl, x1⟩ | ⟨rfl, x1⟩
    all_goals
      go_wp2_with fail
      go_meet
      exact ⟨rfl, rfl⟩
  obtain ⟨rfl, e⟩ := hcut
  obtain rfl := e.symm
  clear r1
  cases eo
  case false =>
    have HIS2 : Hid (o = U.noHost u1) := by
      rw [HIS.out, if_neg (by decide), if_pos rfl]
      exact Lib.hid rfl
    have ff := fun o => free_at (o := o) R3.out.iu
    have d2 := cell_at (o := 2) R3.out.iu rfl
    have d3 := cell_at (o := 3) R3.out.iu rfl
    have d4 := cell_at (o := 4) R3.out.iu rfl
    have d5 := cell_at (o := 5) R3.out.iu rfl
    have d6 := cell_at (o := 6) R3.out.iu rfl
    have d7 := cell_at (o := 7) R3.out.iu rfl
    have R4 := Lib.hid R3.out.noHost
    go_upto_region 9 with fail
    obtain ⟨W4, hW4⟩ : ∃ x, ((((((W3.setCell ⟨g5, 2, none⟩ (.string ⟨#[]⟩)).setCell ⟨g5, 3, none⟩ (.string ⟨#[]⟩)).setCell ⟨g5, 4, none⟩ (.bool false)).setCell ⟨g5, 5, none⟩ (.bool false)).setCell ⟨g5, 6, none⟩ (.string ⟨#[]⟩)).setCell ⟨g5, 7, none⟩ (.string ⟨#[]⟩)) = x := ⟨_, rfl⟩
    rw [hW4] at R4 ⊢
    clear hW4 ff d2 d3 d4 d5 d6 d7 R3
    go_wp2_with (first | (refine wpl_loadV rfl _ rfl _ _ rfl R4.out.iu ?_) | (refine wpl_storeV rfl _ _ rfl _ _ _ rfl rfl R4.out.iz ?_; intro wR hR oR))
    refine ret_V1 Tryz.results28 _ _ rfl rfl hR ?_
    exact ⟨by rw [HIS2.out], R4.out.ret oR⟩
  case true =>
  have r7 : W3.cell? ⟨g3, 7, none⟩ = some (.string r.path) := cell_at R3.out.ir rfl
  have r10 : W3.cell? ⟨g3, 10, none⟩ = some (.bool r.forceQuery) := cell_at R3.out.ir rfl
  have r11 : W3.cell? ⟨g3, 11, none⟩ = some (.string r.rawQuery) := cell_at R3.out.ir rfl
  rw [HFQ.out] at r10
  go_upto_region 10 with fail
  go_cut [54] (fun t wx => t = .bool q ∧ wx = W3)
  case first =>
    rcases em_ways _ _ HEP with ⟨rfl, x1⟩ | ⟨rfl, x1⟩
    · cases fq
      · rcases em_ways _ _ HEQ with ⟨rfl, x2⟩ | ⟨rfl, x2⟩
        · go_wp2_with fail
          go_meet
          exact ⟨by rw [← HQ.out]; rfl, rfl⟩
        · go_wp2_with fail
          go_meet
          exact ⟨by rw [← HQ.out]; rfl, rfl⟩
      · go_wp2_with fail
        go_meet
        exact ⟨by rw [← HQ.out]; rfl, rfl⟩
    · go_wp2_with fail
      go_meet
      exact ⟨by rw [← HQ.out]; rfl, rfl⟩
  obtain ⟨rfl, e⟩ := hcut
  obtain rfl := e.symm
  clear r7 r10 r11
  obtain ⟨u2, HU2⟩ : ∃ x, Hid (rQ b u1 q f = x) := ⟨_, Lib.hid rfl⟩
  rw [HU2.out] at HIS
  go_upto_if 54 with fail
  go_cut [] (fun wx => Hid (Rv W g2 g3 g4 g5 b r u2 wx))
  case first =>
    as_aux_lemma =>
    cases q
    · have hf : f = false := HF.out.symm
      subst hf
      go_wp2_with fail
      go_meet
      rw [← HU2.out]
      exact R3
    · have hf : f = ef := HF.out.symm
      subst hf
      have b11 : W3.cell? ⟨g2, 11, none⟩ = some (.string b.rawQuery) := cell_at R3.out.ib rfl
      have f11 := free_at (o := 11) R3.out.iu
      have u11 : W3.cell? ⟨g5, 11, none⟩ = some (.string u1.rawQuery) := cell_at R3.out.iu rfl
      have R4 : Hid (Rv W g2 g3 g4 g5 b r { u1 with rawQuery := b.rawQuery } (W3.setCell ⟨g5, 11, none⟩ (.string b.rawQuery))) := Lib.hid (R3.out.set 11 _ rfl)
      go_upto_region 12 with fail
      obtain ⟨W4, hW4⟩ : ∃ x, W3.setCell ⟨g5, 11, none⟩ (.string b.rawQuery) = x := ⟨_, rfl⟩
      rw [hW4] at R4 ⊢
      clear hW4 b11 f11 u11 R3
      have r12 : W4.cell? ⟨g3, 12, none⟩ = some (.string r.fragment) := cell_at R4.out.ir rfl
      rcases em_ways _ _ HEF with ⟨rfl, x1⟩ | ⟨rfl, x1⟩
      · go_upto_region 13 with fail
        have b12 : W4.cell? ⟨g2, 12, none⟩ = some (.string b.fragment) := cell_at R4.out.ib rfl
        have b13 : W4.cell? ⟨g2, 13, none⟩ = some (.string b.rawFragment) := cell_at R4.out.ib rfl
        have f12 := free_at (o := 12) R4.out.iu
        have f13 := free_at (o := 13) R4.out.iu
        have u12 : W4.cell? ⟨g5, 12, none⟩ = some (.string u1.fragment) := cell_at R4.out.iu rfl
        have u13 : W4.cell? ⟨g5, 13, none⟩ = some (.string u1.rawFragment) := cell_at R4.out.iu rfl
        have hne : g2 ≠ g5 := by have := R4.out.o2; have := R4.out.o3; have := R4.out.o4; omega
        go_region
        all_goals
          go_wp2_with fail
          go_meet
          rw [← HU2.out]
          exact Lib.hid (((R4.out.set (u' := { u1 with rawQuery := b.rawQuery, fragment := b.fragment }) 12 (.string b.fragment) rfl).set (u' := rQ b u1 true true) 13 (.string b.rawFragment) rfl).drew)
      · go_wp2_with fail
        go_meet
        rw [← HU2.out]
        exact R4
  have R4 := hcut
  clear hcut R3
  obtain ⟨W4, hW4⟩ : ∃ x, wc = x := ⟨_, rfl⟩
  rw [hW4] at R4 ⊢
  clear hW4
  have r7 : W4.cell? ⟨g3, 7, none⟩ = some (.string r.path) := cell_at R4.out.ir rfl
  have b1 : W4.cell? ⟨g2, 1, none⟩ = some (.string b.opq) := cell_at R4.out.ib rfl
  go_upto_region 14 with fail
  go_cut [74] (fun t wx => t = .bool c3 ∧ wx = W4)
  case first =>
    rcases em_ways _ _ HEP with ⟨rfl, x1⟩ | ⟨rfl, x1⟩
    · rcases em_ways _ _ HBO with ⟨rfl, x2⟩ | ⟨rfl, x2⟩
      · go_wp2_with fail
        go_meet
        exact ⟨by rw [← HC3.out]; rfl, rfl⟩
      · go_wp2_with fail
        go_meet
        exact ⟨by rw [← HC3.out]; rfl, rfl⟩
    · go_wp2_with fail
      go_meet
      exact ⟨by rw [← HC3.out]; rfl, rfl⟩
  obtain ⟨rfl, e⟩ := hcut
  obtain rfl := e.symm
  clear r7
  cases c3
  case true =>
    have HIS2 : Hid (o = U.noHost { u2 with opq := b.opq }) := by
      rw [HIS.out, if_neg (by decide), if_neg (by decide), if_pos rfl]
      exact Lib.hid rfl
    have f1 := free_at (o := 1) R4.out.iu
    have u1' : W4.cell? ⟨g5, 1, none⟩ = some (.string u2.opq) := cell_at R4.out.iu rfl
    have R5 : Hid (Rv W g2 g3 g4 g5 b r { u2 with opq := b.opq } (W4.setCell ⟨g5, 1, none⟩ (.string b.opq))) := Lib.hid (R4.out.set 1 _ rfl)
    go_upto_region 16 with fail
    obtain ⟨W5, hW5⟩ : ∃ x, W4.setCell ⟨g5, 1, none⟩ (.string b.opq) = x := ⟨_, rfl⟩
    rw [hW5] at R5 ⊢
    clear hW5 f1 u1' R4 b1
    have ff := fun o => free_at (o := o) R5.out.iu
    have d2 := cell_at (o := 2) R5.out.iu rfl
    have d3 := cell_at (o := 3) R5.out.iu rfl
    have d4 := cell_at (o := 4) R5.out.iu rfl
    have d5 := cell_at (o := 5) R5.out.iu rfl
    have d6 := cell_at (o := 6) R5.out.iu rfl
    have d7 := cell_at (o := 7) R5.out.iu rfl
    have R6 := Lib.hid R5.out.noHost
    go_upto_region 17 with fail
    obtain ⟨W6, hW6⟩ : ∃ x, ((((((W5.setCell ⟨g5, 2, none⟩ (.string ⟨#[]⟩)).setCell ⟨g5, 3, none⟩ (.string ⟨#[]⟩)).setCell ⟨g5, 4, none⟩ (.bool false)).setCell ⟨g5, 5, none⟩ (.bool false)).setCell ⟨g5, 6, none⟩ (.string ⟨#[]⟩)).setCell ⟨g5, 7, none⟩ (.string ⟨#[]⟩)) = x := ⟨_, rfl⟩
    rw [hW6] at R6 ⊢
    clear hW6 ff d2 d3 d4 d5 d6 d7 R5
    go_wp2_with (first | (refine wpl_loadV rfl _ rfl _ _ rfl R6.out.iu ?_) | (refine wpl_storeV rfl _ _ rfl _ _ _ rfl rfl R6.out.iz ?_; intro wR hR oR))
    refine ret_V1 Tryz.results28 _ _ rfl rfl hR ?_
    exact ⟨by rw [HIS2.out], R6.out.ret oR⟩
  case false =>
  go_upto_region 18 with fail
  have hne : g2 ≠ g5 := by have := R4.out.o2; have := R4.out.o3; have := R4.out.o4; omega
  clear b1
  have b2 : W4.cell? ⟨g2, 2, none⟩ = some (.string b.user) := cell_at R4.out.ib rfl
  have b3 : W4.cell? ⟨g2, 3, none⟩ = some (.string b.pass) := cell_at R4.out.ib rfl
  have b4 : W4.cell? ⟨g2, 4, none⟩ = some (.bool b.hasUser) := cell_at R4.out.ib rfl
  have b5 : W4.cell? ⟨g2, 5, none⟩ = some (.bool b.hasPass) := cell_at R4.out.ib rfl
  have b6 : W4.cell? ⟨g2, 6, none⟩ = some (.string b.host) := cell_at R4.out.ib rfl
  have d2 : W4.cell? ⟨g5, 2, none⟩ = some (.string u2.user) := cell_at R4.out.iu rfl
  have d3 : W4.cell? ⟨g5, 3, none⟩ = some (.string u2.pass) := cell_at R4.out.iu rfl
  have d4 : W4.cell? ⟨g5, 4, none⟩ = some (.bool u2.hasUser) := cell_at R4.out.iu rfl
  have d5 : W4.cell? ⟨g5, 5, none⟩ = some (.bool u2.hasPass) := cell_at R4.out.iu rfl
  have d6 : W4.cell? ⟨g5, 6, none⟩ = some (.string u2.host) := cell_at R4.out.iu rfl
  have f2 := free_at (o := 2) R4.out.iu
  have f3 := free_at (o := 3) R4.out.iu
  have f4 := free_at (o := 4) R4.out.iu
  have f5 := free_at (o := 5) R4.out.iu
  have f6 := free_at (o := 6) R4.out.iu
  obtain ⟨u3, HU3⟩ : ∃ x, Hid (rH b u2 = x) := ⟨_, Lib.hid rfl⟩
  go_cut [] (fun wx => Hid (Rv W g2 g3 g4 g5 b r u3 wx))
  case first =>
    go_region
    all_goals
      go_wp2_with fail
      go_meet
      rw [← HU3.out]
      exact Lib.hid (((((R4.out.set (u' := { u2 with host := b.host }) 6 (.string b.host) rfl).set (u' := { u2 with host := b.host, user := b.user }) 2 (.string b.user) rfl).set (u' := { u2 with host := b.host, user := b.user, pass := b.pass }) 3 (.string b.pass) rfl).set (u' := { u2 with host := b.host, user := b.user, pass := b.pass, hasUser := b.hasUser }) 4 (.bool b.hasUser) rfl).set (u' := rH b u2) 5 (.bool b.hasPass) rfl).drew
  have R5 := hcut
  clear hcut R4 b2 b3 b4 b5 b6 d2 d3 d4 d5 d6 f2 f3 f4 f5 f6
  obtain ⟨W5, hW5⟩ : ∃ x, wc = x := ⟨_, rfl⟩
  rw [hW5] at R5 ⊢
  clear hW5
  obtain ⟨er, HER⟩ : ∃ x, Hid (S (U.escPath r) = x) := ⟨_, Lib.hid rfl⟩
  rw [HER.out] at her
  obtain ⟨eb, HEB⟩ : ∃ x, Hid (S (U.escPath b) = x) := ⟨_, Lib.hid rfl⟩
  rw [HEB.out] at heb
  obtain ⟨p, HP⟩ : ∃ x, Hid (S (U.joined (L eb) (L er)) = x) := ⟨_, Lib.hid rfl⟩
  have hp : p.size ≤ 30000 := by
    have := joined_len (L eb) (L er)
    rw [U.len_L, U.len_L] at this
    rw [← HP.out, U.size_S]
    omega
  have hsp : Sm p := by unfold Sm; omega
  have HSP := Lib.hid hsp
  have HIS2 : Hid (o = (U.setPath u3 p).1) := by
    rw [HIS.out, if_neg (by decide), if_neg (by decide), if_neg (by decide), ← HP.out, ← HER.out, ← HEB.out, ← HU3.out]
    exact Lib.hid rfl
  clear hsp HIS
  obtain ⟨u4, HU4⟩ : ∃ x, Hid ((U.setPath u3 p).1 = x) := ⟨_, Lib.hid rfl⟩
  rw [HU4.out] at HIS2
  go_upto_region 19 with fail
  go_cut [] (fun wx => Hid (Rv W g2 g3 g4 g5 b r u4 wx))
  case first =>
    have R6 := Lib.hid R5.out.drew
    refine wp_region_held (S := fun w => IsV w g2 b ∧ IsV w g3 r) (by kernel_rfl) ?_
    change wpAnyH _ _ _ _ _ _ _ _ W5.drew
    refine wpAnyH_take (i := 0) (v := b.val) (fuel := 5) rfl (by kernel_rfl) (by kernel_rfl) (by kernel_rfl) (fun _ _ _ h => h) (yl_loadV rfl _ rfl _ _ rfl (fun w h => h.1)) ⟨R6.out.ib, R6.out.ir⟩ ?_
    simp only [Act.put, List.setIfInBounds_toArray, List.set_cons_succ, List.set_cons_zero]
    refine wpAnyH_take (i := 2) (v := r.val) (fuel := 4) rfl (by kernel_rfl) (by kernel_rfl) (by kernel_rfl) (fun _ _ _ h => h) (yl_loadV rfl _ rfl _ _ rfl (fun w h => h.2)) ⟨R6.out.ib, R6.out.ir⟩ ?_
    simp only [Act.put, List.setIfInBounds_toArray, List.set_cons_succ, List.set_cons_zero]
    have CEB : Hid (∀ w, Calls Tryz.prog 19 #[b.val] w fun e w' => e = .returned (.string eb) ∧ Below w.heap.size w w') := by
      rw [← HEB.out]
      exact Lib.hid fun w => c_escPath w b HPB.out
    have CER : Hid (∀ w, Calls Tryz.prog 19 #[r.val] w fun e w' => e = .returned (.string er) ∧ Below w.heap.size w w') := by
      rw [← HER.out]
      exact Lib.hid fun w => c_escPath w r HPR.out
    refine anyH_one (i := 1) (fuel := 3) (by kernel_rfl) ?_
    · refine wpOp_callF 19 _ _ [b.val] _ Tryz.func19 (by kernel_rfl) rfl rfl rfl rfl rfl ((CEB.out _).mono ?_)
      rintro e w6 ⟨rfl, b6⟩
      have R7 := Lib.hid (R6.out.keep b6)
      clear b6
      refine ⟨_, rfl, ⟨R7.out.ib, R7.out.ir⟩, ?_⟩
      simp only [Act.put, List.setIfInBounds_toArray, List.set_cons_succ, List.set_cons_zero]
      refine anyH_one (i := 3) (fuel := 2) (by kernel_rfl) ?_
      refine wpOp_callF 19 _ _ [r.val] _ Tryz.func19 (by kernel_rfl) rfl rfl rfl rfl rfl ((CER.out _).mono ?_)
      rintro e w7 ⟨rfl, b7⟩
      have R8 := Lib.hid (R7.out.keep b7)
      clear b7
      refine ⟨_, rfl, ⟨R8.out.ib, R8.out.ir⟩, ?_⟩
      simp only [Act.put, List.setIfInBounds_toArray, List.set_cons_succ, List.set_cons_zero]
      refine anyH_one (i := 4) (fuel := 1) (by kernel_rfl) ?_
      refine wpOp_callF 53 _ _ [.string eb, .string er] _ Tryz.func53 (by kernel_rfl) rfl rfl rfl rfl rfl ((c_joined eb er w7 (by omega) (by omega)).mono ?_)
      rw [HP.out]
      rintro e w8 ⟨rfl, d8⟩
      have R9 := Lib.hid (R8.out.keep d8.below)
      clear d8
      refine ⟨_, rfl, ⟨R9.out.ib, R9.out.ir⟩, ?_⟩
      simp only [Act.put, List.setIfInBounds_toArray, List.set_cons_succ, List.set_cons_zero]
      refine anyH_one (i := 5) (fuel := 0) (by kernel_rfl) ?_
      refine wpOp_callF 52 _ _ [.pointer (some ⟨g5, 0, none⟩), .string p] _ Tryz.func52 (by kernel_rfl) rfl rfl rfl rfl rfl ((c_setPath w8 g5 u3 p HSP.out R9.out.iu).mono ?_)
      rw [HU4.out]
      rintro e w9 ⟨rfl, u9, o9⟩
      have RA := Lib.hid (R9.out.only o9 u9)
      clear u9 o9
      refine ⟨_, rfl, ⟨RA.out.ib, RA.out.ir⟩, ?_⟩
      refine wpAnyH_done (by kernel_rfl) ?_ _
      go_wp2_with fail
      go_meet
      exact RA
  have R6 := hcut
  clear hcut R5
  obtain ⟨W6, hW6⟩ : ∃ x, wc = x := ⟨_, rfl⟩
  rw [hW6] at R6 ⊢
  clear hW6
  go_wp2_with (first | (refine wpl_loadV rfl _ rfl _ _ rfl R6.out.iu ?_) | (refine wpl_storeV rfl _ _ rfl _ _ _ rfl rfl R6.out.iz ?_; intro wR hR oR))
  refine ret_V1 Tryz.results28 _ _ rfl rfl hR ?_
  exact ⟨by rw [HIS2.out], R6.out.ret oR⟩
end Go.Proofs.YtphkohpphdcjhaaGreatDoor
