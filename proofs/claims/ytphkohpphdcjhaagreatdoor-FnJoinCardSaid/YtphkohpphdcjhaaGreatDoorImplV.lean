/- The walk of the package's ResolveReference. -/
import Derived.Test.YtphkohpphdcjhaaGreatDoorSpecL
import Derived.Test.YtphkohpphdcjhaaGreatDoorImplU
import Derived.Test.YtphkohpphdcjhaaGreatDoorImplU0
set_option linter.unusedVariables false
set_option linter.unusedSimpArgs false
namespace Go.Proofs.YtphkohpphdcjhaaGreatDoor
open Go.RowKit Go.Proofs.YtphkohpphdcjhaaGreatDoorW.PrintWords Go.Proofs.YtphkohpphdcjhaaGreatDoorW.PrintLast
open U (L S)

/-- The three blocks of ResolveReference: the base, the reference, what is built. -/
structure Ru (W : World) (gb gr g5 : Nat) (b r u : V) (w : World) : Prop where
  ib : IsU w gb b
  ir : IsU w gr r
  iu : IsU w g5 u
  tab : Tab w
  below : Below W.heap.size W w
  o1 : W.heap.size ≤ g5
  o2 : gb < W.heap.size
  o3 : gr < W.heap.size
theorem Ru.keep {W w w' : World} {gb gr g5 : Nat} {b r u : V} (h : Ru W gb gr g5 b r u w) (hb : Below w.heap.size w w') : Ru W gb gr g5 b r u w' :=
  ⟨h.ib.keep hb, h.ir.keep hb, h.iu.keep hb, h.tab.below hb, h.below.trans (hb.mono h.below.size), h.o1, h.o2, h.o3⟩
theorem Ru.only {W w w' : World} {gb gr g5 : Nat} {b r u u' : V} (h : Ru W gb gr g5 b r u w) (ho : Only g5 w w') (hu : IsU w' g5 u') : Ru W gb gr g5 b r u' w' := by
  obtain ⟨x, hx, _⟩ := h.iu
  have h1 := h.o1; have h2 := h.o2; have h3 := h.o3
  exact ⟨h.ib.only ho (by omega) hx (by decide), h.ir.only ho (by omega) hx (by decide), hu, h.tab.only ho (by omega), Only.below h.below ho h.below.size h1, h1, h2, h3⟩
theorem Ru.set {W w : World} {gb gr g5 : Nat} {b r u u' : V} (h : Ru W gb gr g5 b r u w) (o : Nat) (x : Value) (hu : ∀ p, (u.ucells p).setIfInBounds o x = u'.ucells p)
    (e1 : u'.user = u.user := by rfl) (e2 : u'.pass = u.pass := by rfl) (e3 : u'.hasUser = u.hasUser := by rfl) (e4 : u'.hasPass = u.hasPass := by rfl) : Ru W gb gr g5 b r u' (w.setCell ⟨g5, o, none⟩ x) := by
  obtain ⟨p, h1, h2⟩ := h.iu
  exact h.only ((Only.refl _ _).setCell _ _) (IsU.set h1 h2 o x (hu p) e1 e2 e3 e4)
/-- Another user. -/
theorem Ru.user {W w : World} {gb gr g5 : Nat} {b r u u' : V} (h : Ru W gb gr g5 b r u w) (x : Value) (hu : ∀ p, (u.ucells p).setIfInBounds 2 x = u'.ucells x) (hx : UserAt w u' x) : Ru W gb gr g5 b r u' (w.setCell ⟨g5, 2, none⟩ x) := by
  obtain ⟨p, h1, h2⟩ := h.iu
  refine h.only ((Only.refl _ _).setCell _ _) ⟨x, (heap_set h1 x).trans (by rw [hu p]), hx.only ((Only.refl _ _).setCell _ _) h1 (by decide)⟩
theorem Ru.noHost {W w : World} {gb gr g5 : Nat} {b r u : V} (h : Ru W gb gr g5 b r u w) :
    Ru W gb gr g5 b r (U.noHost u) (((w.setCell ⟨g5, 2, none⟩ (.pointer none)).setCell ⟨g5, 3, none⟩ (.string ⟨#[]⟩)).setCell ⟨g5, 4, none⟩ (.string ⟨#[]⟩)) :=
  ((h.user (u' := { u with user := E, pass := E, hasUser := false, hasPass := false }) (.pointer none) (fun _ => rfl) (.inl ⟨rfl, rfl⟩)).set (u' := { u with user := E, pass := E, hasUser := false, hasPass := false, host := E }) 3 _ (fun _ => rfl)).set (u' := U.noHost u) 4 _ (fun _ => rfl)
theorem Ru.cells {W w : World} {gb gr g5 : Nat} {b r u : V} (h : Ru W gb gr g5 b r u w) : ∃ x, w.heap[g5]? = some (.cells (u.ucells x) 80 (0, 0)) := by
  obtain ⟨p, h1, _⟩ := h.iu
  exact ⟨p, h1⟩
theorem ucell {w : World} {g : Nat} {v : V} (h : IsU w g v) : w.cell? ⟨g, 0, none⟩ = some (.string v.scheme) ∧ w.cell? ⟨g, 1, none⟩ = some (.string v.opq) ∧ w.cell? ⟨g, 3, none⟩ = some (.string v.host) ∧ w.cell? ⟨g, 4, none⟩ = some (.string v.path) ∧
    w.cell? ⟨g, 5, none⟩ = some (.string v.fragment) ∧ w.cell? ⟨g, 6, none⟩ = some (.string v.rawQuery) ∧ w.cell? ⟨g, 8, none⟩ = some (.string v.rawFragment) ∧ w.cell? ⟨g, 9, none⟩ = some (.bool v.forceQuery) := by
  obtain ⟨u, h1, _⟩ := h
  exact ⟨cell_at h1 rfl, cell_at h1 rfl, cell_at h1 rfl, cell_at h1 rfl, cell_at h1 rfl, cell_at h1 rfl, cell_at h1 rfl, cell_at h1 rfl⟩
theorem ufree {w : World} {g : Nat} {v : V} (h : IsU w g v) (o : Nat) : w.frozen? ⟨g, o, none⟩ = false := by
  obtain ⟨u, h1, _⟩ := h
  exact free_at h1
theorem setPath_ok {v : V} {p : ByteArray} (h : U.ok (L p) = true) : (U.setPath v p).2 = true := h

set_option maxRecDepth 100000 in
set_option maxHeartbeats 12800000 in
theorem i_resolve (W : World) (gb gr : Nat) (b r : V) (hb : b.Sm 4000) (hr : r.Sm 4000) (hT : Tab W) (hgb : IsU W gb b) (hgr : IsU W gr r) :
    Calls Tryz.prog 51 #[.pointer (some ⟨gb, 0, none⟩), .pointer (some ⟨gr, 0, none⟩)] W fun e w' => ∃ g, e = .returned (.pointer (some ⟨g, 0, none⟩)) ∧ Below W.heap.size W w' ∧ W.heap.size ≤ g ∧ IsU w' g (U.resolve b r) := by
  obtain ⟨o, HO⟩ : ∃ o, Hid (U.resolve b r = o) := ⟨_, rfl⟩
  rw [HO.out]
  have HB := Lib.hid hb
  have HR := Lib.hid hr
  have hl1 := hgb.lt
  have hl2 := hgr.lt
  obtain ⟨ur, k1, k2⟩ := hgr
  have hu1 : ur.oneCell' = true := by rcases k2 with ⟨_, rfl⟩ | ⟨_, k, rfl, _⟩ <;> rfl
  have K1 := Lib.hid k1
  have K2 := Lib.hid k2
  have HGB := Lib.hid hgb
  have HT0 := Lib.hid hT
  clear hb hr hT hgb k1 k2
  obtain ⟨es, HES⟩ : ∃ x, Hid (em r.scheme = x) := ⟨_, rfl⟩
  obtain ⟨eh, HEH⟩ : ∃ x, Hid (em r.host = x) := ⟨_, rfl⟩
  obtain ⟨hu, HHU⟩ : ∃ x, Hid (r.hasUser = x) := ⟨_, rfl⟩
  obtain ⟨eo, HEO⟩ : ∃ x, Hid (em r.opq = x) := ⟨_, rfl⟩
  obtain ⟨ep, HEP⟩ : ∃ x, Hid (em r.path = x) := ⟨_, rfl⟩
  obtain ⟨fq, HFQ⟩ : ∃ x, Hid (r.forceQuery = x) := ⟨_, rfl⟩
  obtain ⟨eq, HEQ⟩ : ∃ x, Hid (em r.rawQuery = x) := ⟨_, rfl⟩
  obtain ⟨ef, HEF⟩ : ∃ x, Hid (em r.fragment = x) := ⟨_, rfl⟩
  obtain ⟨bo, HBO⟩ : ∃ x, Hid (em b.opq = x) := ⟨_, rfl⟩
  obtain ⟨c1, HC1⟩ : ∃ x, Hid ((!es || !eh || hu) = x) := ⟨_, rfl⟩
  obtain ⟨q, HQ⟩ : ∃ x, Hid ((ep && !fq && eq) = x) := ⟨_, rfl⟩
  obtain ⟨f, HF⟩ : ∃ x, Hid ((q && ef) = x) := ⟨_, rfl⟩
  obtain ⟨c3, HC3⟩ : ∃ x, Hid ((ep && !bo) = x) := ⟨_, rfl⟩
  have HIS : Hid (o = _) := Lib.hid (HO.out.symm.trans (resolve_is b r es c1 eo q f c3 HES.out (by rw [HEH.out, HHU.out]; exact HC1.out) HEO.out (by rw [HEP.out, HFQ.out, HEQ.out]; exact HQ.out) (by rw [HEF.out]; exact HF.out) (by rw [HEP.out, HBO.out]; exact HC3.out)))
  have her : (S (U.escPath r)).size ≤ 12000 := by
    have h1 := U.escPath_len r
    have h2 := HR.out.path
    rw [U.len_L] at h1
    rw [U.size_S]
    omega
  have heb : (S (U.escPath b)).size ≤ 12000 := by
    have h1 := U.escPath_len b
    have h2 := HB.out.path
    rw [U.len_L] at h1
    rw [U.size_S]
    omega
  go_enter Tryz.func51, Tryz.ntmps51
  go_upto_region 2 with (first | (refine wpl_loadU rfl _ rfl _ _ _ rfl K1.out ?_) | (refine wpl_storeU rfl _ _ rfl _ _ _ _ rfl rfl (heap_new _ _ _ rfl) rfl hu1 ?_; intro W2 hN ho))
  have hB1 : Below W.heap.size W W2 := new_below ho
  have hR2 : Ru W gb gr W.heap.size b r r W2 :=
    ⟨HGB.out.keep hB1, IsU.keep ⟨ur, K1.out, K2.out⟩ hB1, ⟨ur, hN, K2.out.keep hB1⟩, HT0.out.below hB1, hB1, Nat.le_refl _, hl1, hl2⟩
  obtain ⟨g5, hg5⟩ : ∃ x, W.heap.size = x := ⟨_, rfl⟩
  have R2 : Hid (Ru W gb gr g5 b r r W2) := by rw [← hg5]; exact Lib.hid hR2
  rw [hg5]
  clear hg5 K1 K2 hu1 hN ho hB1 hR2 HGB HT0 hl1 hl2
  go_frame
  obtain ⟨r0, -⟩ := ucell R2.out.ir
  go_cut [13] (fun t wx => t = .bool es ∧ wx = W2)
  case first =>
    rcases em_ways _ _ HES with ⟨rfl, x1⟩ | ⟨rfl, x1⟩
    all_goals
      go_wp2_with fail
      go_meet
      exact ⟨rfl, rfl⟩
  obtain ⟨rfl, e⟩ := hcut
  obtain rfl := e.symm
  go_upto_if 13 with fail
  obtain ⟨u1, HU1⟩ : ∃ x, Hid (rU b r es = x) := ⟨_, rfl⟩
  rw [HU1.out] at HIS
  go_cut [] (fun wx => Hid (Ru W gb gr g5 b r u1 wx))
  case first =>
    cases es
    · go_wp2_with fail
      go_meet
      rw [← HU1.out]
      exact R2
    · obtain ⟨b0, -⟩ := ucell R2.out.ib
      obtain ⟨d0, -⟩ := ucell R2.out.iu
      have f0 := ufree R2.out.iu 0
      go_wp2_with fail
      go_meet
      rw [← HU1.out]
      exact Lib.hid (R2.out.set (u' := rU b r true) 0 (.string b.scheme) (fun _ => rfl))
  have R3 := hcut
  clear hcut R2 r0
  obtain ⟨W3, hW3⟩ : ∃ x, wc = x := ⟨_, rfl⟩
  rw [hW3] at R3 ⊢
  clear hW3
  obtain ⟨r0, -, r3, -⟩ := ucell R3.out.ir
  obtain ⟨u', k1, k2⟩ := R3.out.ir
  have r2 : W3.cell? ⟨gr, 2, none⟩ = some u' := cell_at k1 rfl
  have hw := k2
  unfold UserAt at hw
  rw [HHU.out] at hw
  have HWY := Lib.hid hw
  clear k1 k2 hw
  go_upto_region 4 with fail
  go_cut [37] (fun t wx => t = .bool c1 ∧ wx = W3)
  case first =>
    rcases em_ways _ _ HES with ⟨rfl, x1⟩ | ⟨rfl, x1⟩
    · rcases em_ways _ _ HEH with ⟨rfl, x2⟩ | ⟨rfl, x2⟩
      · rcases HWY.out with ⟨rfl, rfl⟩ | ⟨rfl, k, rfl, hk⟩
        · go_wp2_with fail
          go_meet
          exact ⟨by rw [← HC1.out]; rfl, rfl⟩
        · clear hk
          go_wp2_with fail
          go_meet
          exact ⟨by rw [← HC1.out]; rfl, rfl⟩
      · go_wp2_with fail
        go_meet
        exact ⟨by rw [← HC1.out]; rfl, rfl⟩
    · go_wp2_with fail
      go_meet
      exact ⟨by rw [← HC1.out]; rfl, rfl⟩
  obtain ⟨rfl, e⟩ := hcut
  obtain rfl := e.symm
  clear r0 r3 r2 HWY
  go_upto_if 37 with fail
  cases c1
  case true =>
    obtain ⟨er, HER⟩ : ∃ x, Hid (S (U.escPath r) = x) := ⟨_, Lib.hid rfl⟩
    rw [HER.out] at her
    have hok : U.ok (U.joined (L er) []) = true := by rw [← HER.out, U.L_S]; exact U.joined_ok (U.escPath_ok r) U.ok_nil
    obtain ⟨p, HP⟩ : ∃ x, Hid (S (U.joined (L er) []) = x) := ⟨_, Lib.hid rfl⟩
    have hp : p.size ≤ 30000 := by
      have := joined_len (L er) []
      rw [U.len_L] at this
      rw [← HP.out, U.size_S]
      simp at this
      omega
    have hsp : Sm p := by unfold Sm; omega
    have HSP := Lib.hid hsp
    have HOK : Hid ((U.setPath u1 p).2 = true) := Lib.hid (setPath_ok (by rw [← HP.out, U.L_S]; exact hok))
    have HIS2 : Hid (o = (U.setPath u1 p).1) := by
      rw [HIS.out, if_pos rfl, ← HP.out, ← HER.out]
      exact Lib.hid rfl
    have CE := Lib.hid (i_escPath W3 gr r (HR.out.mono (by decide)) R3.out.tab R3.out.ir)
    rw [HER.out] at CE
    clear hsp hok
    go_wp2_with fail
    refine CE.out.mono ?_
    rintro e w4 ⟨rfl, b4⟩
    have R4 := Lib.hid (R3.out.keep b4)
    clear b4 R3 CE
    go_wp2_with fail
    refine (i_resolvePath er ⟨#[]⟩ w4 (by omega) (by decide)).mono ?_
    rw [show S (U.joined (L er) (L ⟨#[]⟩)) = p from HP.out]
    rintro e w5 ⟨rfl, b5⟩
    have R5 := Lib.hid (R4.out.keep b5)
    clear b5 R4
    go_wp2_with fail
    refine (i_setPath w5 g5 u1 p HSP.out R5.out.tab R5.out.iu).mono ?_
    rw [HOK.out]
    rintro e w6 ⟨o6, rfl, u6⟩
    have R6 := Lib.hid (R5.out.only o6 u6)
    clear u6 o6 R5
    go_wp2_with fail
    go_ret
    exact ⟨g5, rfl, R6.out.below, R6.out.o1, by rw [HIS2.out]; exact R6.out.iu⟩
  case false =>
  obtain ⟨-, r1, -⟩ := ucell R3.out.ir
  go_upto_region 7 with fail
  go_cut [46] (fun t wx => t = .bool (!eo) ∧ wx = W3)
  case first =>
    rcases em_ways _ _ HEO with ⟨rfl, x1⟩ | ⟨rfl, x1⟩
    all_goals
      go_wp2_with fail
      go_meet
      exact ⟨rfl, rfl⟩
  obtain ⟨rfl, e⟩ := hcut
  obtain rfl := e.symm
  clear r1
  go_upto_if 46 with fail
  cases eo
  case false =>
    have HIS2 : Hid (o = U.noHost u1) := by
      rw [HIS.out, if_neg (by decide), if_pos rfl]
      exact Lib.hid rfl
    obtain ⟨x5, k5⟩ := R3.out.cells
    have ff := fun o => free_at (o := o) k5
    have d2 := cell_at (o := 2) k5 rfl
    have d3 := cell_at (o := 3) k5 rfl
    have d4 := cell_at (o := 4) k5 rfl
    have R4 := Lib.hid R3.out.noHost
    clear k5
    go_wp2_with fail
    go_ret
    exact ⟨g5, rfl, R4.out.below, R4.out.o1, by rw [HIS2.out]; exact R4.out.iu⟩
  case true =>
  obtain ⟨-, -, -, r4, -, r6, -, r9⟩ := ucell R3.out.ir
  rw [HFQ.out] at r9
  go_upto_region 12 with fail
  go_cut [68] (fun t wx => t = .bool q ∧ wx = W3)
  case first =>
    rcases em_ways _ _ HEP with ⟨rfl, x1⟩ | ⟨rfl, x1⟩
    · cases fq
      · rcases em_ways _ _ HEQ with ⟨rfl, x2⟩ | ⟨rfl, x2⟩
        · go_wp2_with fail
          go_meet
          exact ⟨by rw [← HQ.out]; rfl, rfl⟩
        · go_wp2_with fail
          go_meet
          exact ⟨by rw [← HQ.out]; rfl, rfl⟩
      · go_wp2_with fail
        go_meet
        exact ⟨by rw [← HQ.out]; rfl, rfl⟩
    · go_wp2_with fail
      go_meet
      exact ⟨by rw [← HQ.out]; rfl, rfl⟩
  obtain ⟨rfl, e⟩ := hcut
  obtain rfl := e.symm
  clear r4 r6 r9
  obtain ⟨u2, HU2⟩ : ∃ x, Hid (rQ b u1 q f = x) := ⟨_, Lib.hid rfl⟩
  rw [HU2.out] at HIS
  go_upto_if 68 with fail
  go_cut [] (fun wx => Hid (Ru W gb gr g5 b r u2 wx))
  case first =>
    as_aux_lemma =>
    cases q
    · have hf : f = false := HF.out.symm
      subst hf
      go_wp2_with fail
      go_meet
      rw [← HU2.out]
      exact R3
    · have hf : f = ef := HF.out.symm
      subst hf
      obtain ⟨-, -, -, -, -, b6, -⟩ := ucell R3.out.ib
      obtain ⟨-, -, -, -, -, d6, -⟩ := ucell R3.out.iu
      have f6 := ufree R3.out.iu 6
      have R4 : Hid (Ru W gb gr g5 b r { u1 with rawQuery := b.rawQuery } (W3.setCell ⟨g5, 6, none⟩ (.string b.rawQuery))) := Lib.hid (R3.out.set 6 (.string b.rawQuery) (fun _ => rfl))
      go_upto_region 14 with fail
      obtain ⟨W4, hW4⟩ : ∃ x, W3.setCell ⟨g5, 6, none⟩ (.string b.rawQuery) = x := ⟨_, rfl⟩
      rw [hW4] at R4 ⊢
      clear hW4 b6 f6 d6 R3
      obtain ⟨-, -, -, -, r5, -⟩ := ucell R4.out.ir
      rcases em_ways _ _ HEF with ⟨rfl, x1⟩ | ⟨rfl, x1⟩
      · obtain ⟨-, -, -, -, b5, -⟩ := ucell R4.out.ib
        obtain ⟨-, -, -, -, d5, -⟩ := ucell R4.out.iu
        have f5 := ufree R4.out.iu 5
        have R5 : Hid (Ru W gb gr g5 b r { u1 with rawQuery := b.rawQuery, fragment := b.fragment } (W4.setCell ⟨g5, 5, none⟩ (.string b.fragment))) := Lib.hid (R4.out.set 5 (.string b.fragment) (fun _ => rfl))
        go_upto_region 16 with fail
        obtain ⟨W5, hW5⟩ : ∃ x, W4.setCell ⟨g5, 5, none⟩ (.string b.fragment) = x := ⟨_, rfl⟩
        rw [hW5] at R5 ⊢
        clear hW5 b5 f5 d5 R4 r5
        obtain ⟨-, -, -, -, -, -, b8, -⟩ := ucell R5.out.ib
        obtain ⟨-, -, -, -, -, -, d8, -⟩ := ucell R5.out.iu
        have f8 := ufree R5.out.iu 8
        go_wp2_with fail
        go_meet
        rw [← HU2.out]
        exact Lib.hid (R5.out.set (u' := rQ b u1 true true) 8 (.string b.rawFragment) (fun _ => rfl))
      · go_wp2_with fail
        go_meet
        rw [← HU2.out]
        exact R4
  have R4 := hcut
  clear hcut R3
  obtain ⟨W4, hW4⟩ : ∃ x, wc = x := ⟨_, rfl⟩
  rw [hW4] at R4 ⊢
  clear hW4
  obtain ⟨-, -, -, r4, -⟩ := ucell R4.out.ir
  obtain ⟨-, b1, -⟩ := ucell R4.out.ib
  go_upto_region 17 with fail
  go_cut [100] (fun t wx => t = .bool c3 ∧ wx = W4)
  case first =>
    rcases em_ways _ _ HEP with ⟨rfl, x1⟩ | ⟨rfl, x1⟩
    · rcases em_ways _ _ HBO with ⟨rfl, x2⟩ | ⟨rfl, x2⟩
      · go_wp2_with fail
        go_meet
        exact ⟨by rw [← HC3.out]; rfl, rfl⟩
      · go_wp2_with fail
        go_meet
        exact ⟨by rw [← HC3.out]; rfl, rfl⟩
    · go_wp2_with fail
      go_meet
      exact ⟨by rw [← HC3.out]; rfl, rfl⟩
  obtain ⟨rfl, e⟩ := hcut
  obtain rfl := e.symm
  clear r4
  go_upto_if 100 with fail
  cases c3
  case true =>
    have HIS2 : Hid (o = U.noHost { u2 with opq := b.opq }) := by
      rw [HIS.out, if_neg (by decide), if_neg (by decide), if_pos rfl]
      exact Lib.hid rfl
    obtain ⟨-, d1, -⟩ := ucell R4.out.iu
    have f1 := ufree R4.out.iu 1
    have R5 : Hid (Ru W gb gr g5 b r { u2 with opq := b.opq } (W4.setCell ⟨g5, 1, none⟩ (.string b.opq))) := Lib.hid (R4.out.set 1 (.string b.opq) (fun _ => rfl))
    go_upto_region 19 with fail
    obtain ⟨W5, hW5⟩ : ∃ x, W4.setCell ⟨g5, 1, none⟩ (.string b.opq) = x := ⟨_, rfl⟩
    rw [hW5] at R5 ⊢
    clear hW5 f1 d1 R4 b1
    obtain ⟨x5, k5⟩ := R5.out.cells
    have ff := fun o => free_at (o := o) k5
    have d2 := cell_at (o := 2) k5 rfl
    have d3 := cell_at (o := 3) k5 rfl
    have d4 := cell_at (o := 4) k5 rfl
    have R6 := Lib.hid R5.out.noHost
    clear k5
    go_wp2_with fail
    go_ret
    exact ⟨g5, rfl, R6.out.below, R6.out.o1, by rw [HIS2.out]; exact R6.out.iu⟩
  case false =>
  clear b1
  obtain ⟨ub, kb1, kb2⟩ := R4.out.ib
  obtain ⟨x5, k5⟩ := R4.out.cells
  have b3 : W4.cell? ⟨gb, 3, none⟩ = some (.string b.host) := cell_at kb1 rfl
  have d3 := cell_at (o := 3) k5 rfl
  have f3 := ufree R4.out.iu 3
  have R5 : Hid (Ru W gb gr g5 b r { u2 with host := b.host } (W4.setCell ⟨g5, 3, none⟩ (.string b.host))) := Lib.hid (R4.out.set 3 (.string b.host) (fun _ => rfl))
  clear kb1 kb2 k5
  go_upto_region 24 with fail
  obtain ⟨W5, hW5⟩ : ∃ x, W4.setCell ⟨g5, 3, none⟩ (.string b.host) = x := ⟨_, rfl⟩
  rw [hW5] at R5 ⊢
  clear hW5 b3 d3 f3 R4
  obtain ⟨ub, kb1, kb2⟩ := R5.out.ib
  obtain ⟨x5, k5⟩ := R5.out.cells
  have b2 : W5.cell? ⟨gb, 2, none⟩ = some ub := cell_at kb1 rfl
  have d2 := cell_at (o := 2) k5 rfl
  have f2 := ufree R5.out.iu 2
  have hub : ub.oneCell' = true := by rcases kb2 with ⟨_, rfl⟩ | ⟨_, k, rfl, _⟩ <;> rfl
  obtain ⟨u3, HU3⟩ : ∃ x, Hid (rH b u2 = x) := ⟨_, Lib.hid rfl⟩
  rw [HU3.out] at HIS
  have R6 : Hid (Ru W gb gr g5 b r u3 (W5.setCell ⟨g5, 2, none⟩ ub)) := by
    rw [← HU3.out]
    exact Lib.hid (R5.out.user (u' := rH b u2) ub (fun _ => rfl) kb2)
  have HKB := Lib.hid kb2
  clear kb1 kb2 k5
  go_cut [] (fun wx => Hid (Ru W gb gr g5 b r u3 wx))
  case first =>
    rcases HKB.out with ⟨_, rfl⟩ | ⟨_, k, rfl, _⟩
    all_goals
      go_wp2_with fail
      go_meet
      exact R6
  have R7 := hcut
  clear hcut R6 R5 b2 d2 f2 HKB hub
  obtain ⟨W7, hW7⟩ : ∃ x, wc = x := ⟨_, rfl⟩
  rw [hW7] at R7 ⊢
  clear hW7
  obtain ⟨er, HER⟩ : ∃ x, Hid (S (U.escPath r) = x) := ⟨_, Lib.hid rfl⟩
  rw [HER.out] at her
  obtain ⟨eb, HEB⟩ : ∃ x, Hid (S (U.escPath b) = x) := ⟨_, Lib.hid rfl⟩
  rw [HEB.out] at heb
  have hok : U.ok (U.joined (L eb) (L er)) = true := by rw [← HER.out, ← HEB.out, U.L_S, U.L_S]; exact U.joined_ok (U.escPath_ok b) (U.escPath_ok r)
  obtain ⟨p, HP⟩ : ∃ x, Hid (S (U.joined (L eb) (L er)) = x) := ⟨_, Lib.hid rfl⟩
  have hp : p.size ≤ 30000 := by
    have := joined_len (L eb) (L er)
    rw [U.len_L, U.len_L] at this
    rw [← HP.out, U.size_S]
    omega
  have hsp : Sm p := by unfold Sm; omega
  have HSP := Lib.hid hsp
  have HOK : Hid ((U.setPath u3 p).2 = true) := Lib.hid (setPath_ok (by rw [← HP.out, U.L_S]; exact hok))
  have HIS2 : Hid (o = (U.setPath u3 p).1) := by
    rw [HIS.out, if_neg (by decide), if_neg (by decide), if_neg (by decide), ← HP.out, ← HER.out, ← HEB.out]
    exact Lib.hid rfl
  have CB := Lib.hid (i_escPath W7 gb b (HB.out.mono (by decide)) R7.out.tab R7.out.ib)
  rw [HEB.out] at CB
  clear hsp hok HIS
  go_wp2_with fail
  refine CB.out.mono ?_
  rintro e w8 ⟨rfl, b8⟩
  have R8 := Lib.hid (R7.out.keep b8)
  clear b8 R7 CB
  have CE := Lib.hid (i_escPath w8 gr r (HR.out.mono (by decide)) R8.out.tab R8.out.ir)
  rw [HER.out] at CE
  go_wp2_with fail
  refine CE.out.mono ?_
  rintro e w9 ⟨rfl, b9⟩
  have R9 := Lib.hid (R8.out.keep b9)
  clear b9 R8 CE
  go_wp2_with fail
  refine (i_resolvePath eb er w9 (by omega) (by omega)).mono ?_
  rw [HP.out]
  rintro e wa ⟨rfl, ba⟩
  have RA := Lib.hid (R9.out.keep ba)
  clear ba R9
  go_wp2_with fail
  refine (i_setPath wa g5 u3 p HSP.out RA.out.tab RA.out.iu).mono ?_
  rw [HOK.out]
  rintro e wb ⟨ob, rfl, ub'⟩
  have RB := Lib.hid (RA.out.only ob ub')
  clear ub' ob RA
  go_wp2_with fail
  go_ret
  exact ⟨g5, rfl, RB.out.below, RB.out.o1, by rw [HIS2.out]; exact RB.out.iu⟩
end Go.Proofs.YtphkohpphdcjhaaGreatDoor
