/- The printed functions of the reference. -/
import Derived.Test.YtphkohpphdcjhaaGreatDoorTPFnJoinTextx0
import Derived.Test.YtphkohpphdcjhaaGreatDoorTPFnJoinTextx1
namespace Go.Proofs.YtphkohpphdcjhaaGreatDoor.PFnJoinText
open Go.RowKit Go.Proofs.YtphkohpphdcjhaaGreatDoorW.PrintWords Go.Proofs.YtphkohpphdcjhaaGreatDoorW.PrintLast Go.Proofs.YtphkohpphdcjhaaGreatDoorW.PrintMore
attribute [local go_sem] max2_int min2_int max_two min_two max_three min_three max_four min_four   -- for this text's walks alone
set_option linter.unusedVariables false
set_option linter.unusedSimpArgs false

/-! ### spec_Unescape: function 37 -/
mutual
def spec_Unescape.l0 : Nat → ByteArray → Int → List Int → Int → Option (ByteArray × Bool)
  | 0, _, _, _, _ => none
  | k + 1, x0, x1, x6, x7 => if x7 < (x0.size : Int) then (if 0 ≤ x7 then (if (bt x0 x7) = 37 then (if (wrap64 (x7 + 2)) ≥ (x0.size : Int) then (spec_Unescape.j1 k x0 x1 x6 x7 true) else (if 0 ≤ (wrap64 (x7 + 1)) then (if (wrap64 (x7 + 1)) < (x0.size : Int) then ((spec_hex.f k (bt x0 (wrap64 (x7 + 1)))).bind fun t122 => (if t122 < 0 then (spec_Unescape.j1 k x0 x1 x6 x7 true) else (if 0 ≤ (wrap64 (x7 + 2)) then (if (wrap64 (x7 + 2)) < (x0.size : Int) then ((spec_hex.f k (bt x0 (wrap64 (x7 + 2)))).bind fun t123 => (spec_Unescape.j1 k x0 x1 x6 x7 (decide (t123 < 0)))) else (none)) else (none)))) else (none)) else (none))) else (if x1 = 2 then (if (bt x0 x7) < 128 then ((spec_free.f k (bt x0 x7) 2).bind fun t112 => (if t112 = true then (if x6.length < 140737488355328 then (spec_Unescape.l0 k x0 x1 (x6 ++ [bt x0 x7]) (wrap64 (x7 + 1))) else (none)) else (some ((⟨#[]⟩ : ByteArray), false)))) else (if x6.length < 140737488355328 then (spec_Unescape.l0 k x0 x1 (x6 ++ [bt x0 x7]) (wrap64 (x7 + 1))) else (none))) else (if x6.length < 140737488355328 then (spec_Unescape.l0 k x0 x1 (x6 ++ [bt x0 x7]) (wrap64 (x7 + 1))) else (none)))) else (none)) else (some (strOfNums x6, true))
def spec_Unescape.j1 : Nat → ByteArray → Int → List Int → Int → Bool → Option (ByteArray × Bool)
  | 0, _, _, _, _, _ => none
  | k + 1, x0, x1, x6, x7, x61 => if x61 = true then (some ((⟨#[]⟩ : ByteArray), false)) else (if 0 ≤ (wrap64 (x7 + 1)) then (if (wrap64 (x7 + 1)) < (x0.size : Int) then ((spec_hex.f k (bt x0 (wrap64 (x7 + 1)))).bind fun t124 => (if 0 ≤ (wrap64 (x7 + 2)) then (if (wrap64 (x7 + 2)) < (x0.size : Int) then ((spec_hex.f k (bt x0 (wrap64 (x7 + 2)))).bind fun t125 => (if x1 = 2 then (if (wrap64 ((wrap64 (t124 * 16)) + t125)) < 128 then (if (wrap64 ((wrap64 (t124 * 16)) + t125)) = 37 then (if x6.length < 140737488355328 then (spec_Unescape.l0 k x0 x1 (x6 ++ [(wrap64 ((wrap64 (t124 * 16)) + t125)) % 256]) (wrap64 ((wrap64 (x7 + 2)) + 1))) else (none)) else (some ((⟨#[]⟩ : ByteArray), false))) else (if x6.length < 140737488355328 then (spec_Unescape.l0 k x0 x1 (x6 ++ [(wrap64 ((wrap64 (t124 * 16)) + t125)) % 256]) (wrap64 ((wrap64 (x7 + 2)) + 1))) else (none))) else (if x6.length < 140737488355328 then (spec_Unescape.l0 k x0 x1 (x6 ++ [(wrap64 ((wrap64 (t124 * 16)) + t125)) % 256]) (wrap64 ((wrap64 (x7 + 2)) + 1))) else (none)))) else (none)) else (none))) else (none)) else (none))
end
def spec_Unescape.f (k : Nat) (a0 : ByteArray) (a1 : Int) : Option (ByteArray × Bool) := spec_Unescape.l0 k a0 a1 (([] : List Int)) 0
theorem spec_Unescape.mono_l : ∀ k, (∀ y0 y1 y2 y3, LeO (spec_Unescape.l0 k y0 y1 y2 y3) (spec_Unescape.l0 (k + 1) y0 y1 y2 y3)) ∧ (∀ y0 y1 y2 y3 y4, LeO (spec_Unescape.j1 k y0 y1 y2 y3 y4) (spec_Unescape.j1 (k + 1) y0 y1 y2 y3 y4))
  | 0 => ⟨fun _ _ _ _ r h => by simp [spec_Unescape.l0] at h, fun _ _ _ _ _ r h => by simp [spec_Unescape.j1] at h⟩
  | k + 1 => by
    obtain ⟨ih0, ih1⟩ := spec_Unescape.mono_l k
    refine ⟨?_, ?_⟩
    · intro y0 y1 y2 y3
      unfold spec_Unescape.l0
      repeat' first
      | (with_reducible exact ih0 _ _ _ _)
      | (with_reducible exact ih1 _ _ _ _ _)
      | (with_reducible exact spec_free.mono _ _ _)
      | (with_reducible exact spec_hex.mono _ _)
      | (with_reducible exact LeO.refl _)
      | (with_reducible exact LeO.none _)
      | (with_reducible refine LeO.ite ?_ ?_)
      | (with_reducible refine LeO.bind ?_ (fun _ => ?_))
      | exact ih0 _ _ _ _
      | exact ih1 _ _ _ _ _
      | exact spec_free.mono _ _ _
      | exact spec_hex.mono _ _
      | exact LeO.none _
      | refine LeO.ite ?_ ?_
      | refine LeO.bind ?_ (fun _ => ?_)
    · intro y0 y1 y2 y3 y4
      unfold spec_Unescape.j1
      repeat' first
      | (with_reducible exact ih0 _ _ _ _)
      | (with_reducible exact ih1 _ _ _ _ _)
      | (with_reducible exact spec_free.mono _ _ _)
      | (with_reducible exact spec_hex.mono _ _)
      | (with_reducible exact LeO.refl _)
      | (with_reducible exact LeO.none _)
      | (with_reducible refine LeO.ite ?_ ?_)
      | (with_reducible refine LeO.bind ?_ (fun _ => ?_))
      | exact ih0 _ _ _ _
      | exact ih1 _ _ _ _ _
      | exact spec_free.mono _ _ _
      | exact spec_hex.mono _ _
      | exact LeO.none _
      | refine LeO.ite ?_ ?_
      | refine LeO.bind ?_ (fun _ => ?_)
theorem spec_Unescape.mono : ∀ a0 a1 k, LeO (spec_Unescape.f k a0 a1) (spec_Unescape.f (k + 1) a0 a1) := by
  intro a0 a1 k
  obtain ⟨ih0, ih1⟩ := spec_Unescape.mono_l k
  unfold spec_Unescape.f
  repeat' first
      | (with_reducible exact ih0 _ _ _ _)
      | (with_reducible exact ih1 _ _ _ _ _)
      | (with_reducible exact spec_free.mono _ _ _)
      | (with_reducible exact spec_hex.mono _ _)
      | (with_reducible exact LeO.refl _)
      | (with_reducible exact LeO.none _)
      | (with_reducible refine LeO.ite ?_ ?_)
      | (with_reducible refine LeO.bind ?_ (fun _ => ?_))
      | exact ih0 _ _ _ _
      | exact ih1 _ _ _ _ _
      | exact spec_free.mono _ _ _
      | exact spec_hex.mono _ _
      | exact LeO.none _
      | refine LeO.ite ?_ ?_
      | refine LeO.bind ?_ (fun _ => ?_)
set_option maxHeartbeats 8000000 in
set_option maxRecDepth 100000 in
theorem spec_Unescape.calls (k : Nat) (a0 : ByteArray) (a1 : Int) (r1 : ByteArray) (r2 : Bool) (w : World) (h : spec_Unescape.f k a0 a1 = some (r1, r2)) :
    Calls Tryz.prog 37 #[.string a0, .int .i64 a1] w fun e w' => e = .returned (.tuple #[.string r1, .bool r2]) ∧ Below w.heap.size w w' := by
  have HB := Aside0.mk (Below.refl w.heap.size w)
  have H : (spec_Unescape.l0 k a0 a1 (([] : List Int)) 0) = some (r1, r2) := h
  clear h
  obtain ⟨y109, hy109⟩ : ∃ y_ : List Int, y_ = (([] : List Int)) := ⟨_, rfl⟩
  replace H : (spec_Unescape.l0 k a0 a1 y109 0) = some (r1, r2) := by first | (rw [hy109]; with_reducible exact H) | (have H2_ := (Option.bind_some _ _).symm.trans H; rw [hy109]; with_reducible exact H2_) | (have H2_ := (Option.bind_some _ _).symm.trans H; with_reducible exact H2_) | with_reducible exact H | (rw [hy109]; exact H) | exact H
  have Ny109 := Aside0.mk hy109
  clear hy109
  have H' := Aside0.mk H
  clear H
  go_enter Tryz.func37, Tryz.ntmps37
  go_wp2_with (first | ((with_reducible refine gate_dst (N := 9) rfl ?_); refine Kd.R_lit (Kd.int .u8) _ 5 ?hg (N := 9) ?hd (xs := ([] : List Int)) (inner := []) (ok := fun _ => True) (okp := fun _ => True) ?hr ?hp (fun _ hk => hk) trivial (Below.refl _ _) (Nat.le_refl _) (by simp) ?_; (case hd => rfl); (case hg => rfl); (case hr => first | (go_simp; done) | (go_simp; rfl)); (case hp => exact (Reps.none _ _)); intro v110 w3 ho4 hb hg_ hnew_; clear hg_ hnew_; (first | rw [← Ny109.out] at ho4 | (simp only [Int.reduceToNat] at ho4; rw [← Ny109.out] at ho4)); have n0_ := Aside0.mk (Kd.R_lower ho4 (below_size (by repeat (first | (with_reducible first | exact HB.out | apply below_alloc | apply pw_below_drewN | apply below_drew1) | exact HB.out)))); have n1_ := Aside0.mk (below_step (by repeat (first | (with_reducible first | exact HB.out | apply below_alloc | apply pw_below_drewN | apply below_drew1) | exact HB.out)) hb); clear HB; have HO111 := n0_; have HB := n1_; clear n0_ n1_; clear hb ho4))
  repeat (go_quiet (first | ((with_reducible refine gate_dst (N := 9) rfl ?_); refine Kd.R_lit (Kd.int .u8) _ 5 ?hg (N := 9) ?hd (xs := ([] : List Int)) (inner := []) (ok := fun _ => True) (okp := fun _ => True) ?hr ?hp (fun _ hk => hk) trivial (Below.refl _ _) (Nat.le_refl _) (by simp) ?_; (case hd => rfl); (case hg => rfl); (case hr => first | (go_simp; done) | (go_simp; rfl)); (case hp => exact (Reps.none _ _)); intro v110 w3 ho4 hb hg_ hnew_; clear hg_ hnew_; (first | rw [← Ny109.out] at ho4 | (simp only [Int.reduceToNat] at ho4; rw [← Ny109.out] at ho4)); have n0_ := Aside0.mk (Kd.R_lower ho4 (below_size (by repeat (first | (with_reducible first | exact HB.out | apply below_alloc | apply pw_below_drewN | apply below_drew1) | exact HB.out)))); have n1_ := Aside0.mk (below_step (by repeat (first | (with_reducible first | exact HB.out | apply below_alloc | apply pw_below_drewN | apply below_drew1) | exact HB.out)) hb); clear HB; have HO111 := n0_; have HB := n1_; clear n0_ n1_; clear hb ho4)); try go_wp2_with (first | ((with_reducible refine gate_dst (N := 9) rfl ?_); refine Kd.R_lit (Kd.int .u8) _ 5 ?hg (N := 9) ?hd (xs := ([] : List Int)) (inner := []) (ok := fun _ => True) (okp := fun _ => True) ?hr ?hp (fun _ hk => hk) trivial (Below.refl _ _) (Nat.le_refl _) (by simp) ?_; (case hd => rfl); (case hg => rfl); (case hr => first | (go_simp; done) | (go_simp; rfl)); (case hp => exact (Reps.none _ _)); intro v110 w3 ho4 hb hg_ hnew_; clear hg_ hnew_; (first | rw [← Ny109.out] at ho4 | (simp only [Int.reduceToNat] at ho4; rw [← Ny109.out] at ho4)); have n0_ := Aside0.mk (Kd.R_lower ho4 (below_size (by repeat (first | (with_reducible first | exact HB.out | apply below_alloc | apply pw_below_drewN | apply below_drew1) | exact HB.out)))); have n1_ := Aside0.mk (below_step (by repeat (first | (with_reducible first | exact HB.out | apply below_alloc | apply pw_below_drewN | apply below_drew1) | exact HB.out)) hb); clear HB; have HO111 := n0_; have HB := n1_; clear n0_ n1_; clear hb ho4)))
  go_loopg [6, 7] k (fun kq v6 v7 w' => ∃ (x6_1 : List Int) (x7_1 : Int), v7 = .int .i64 x7_1 ∧ Aside0 (spec_Unescape.l0 kq a0 a1 x6_1 x7_1 = some (r1, r2)) ∧ Aside0 (kq ≤ k) ∧ Aside0 (Kd.R (Kd.int .u8) 5 w' w.heap.size (fun _ => True) v6 x6_1) ∧ Aside0 (Below w.heap.size w w'))
  case atStart => exact ⟨(y109), (0), (by first | rfl | (simp; done) | (simp [*]; done)), H', ⟨Nat.le_refl _⟩, ⟨by (with_reducible repeat (first | apply Kd.R_alloc | apply Kd.R_drewN | apply Kd.R_drew)); exact HO111.out⟩, ⟨by repeat (first | (with_reducible first | exact HB.out | apply below_alloc | apply pw_below_drewN | apply below_drew1) | exact HB.out)⟩⟩
  case round =>
    clear H'
    try clear p2
    try clear c3
    obtain ⟨x6_1, x7_1, rfl, HA, HK1, HO_6, HB⟩ := hrel
    cases gk with
    | zero => exact absurd HA.out (by simp [spec_Unescape.l0])
    | succ k1 =>
      have H := HA.out
      clear HA
      simp only [spec_Unescape.l0] at H
      by_cases c5 : x7_1 < (a0.size : Int)
      · rw [if_pos c5] at H
        have c5b0 : decide (x7_1 < (a0.size : Int)) = true := decide_eq_true c5
        clear c5
        by_cases c6 : 0 ≤ x7_1
        · rw [if_pos c6] at H
          have c6b0 : decide (0 ≤ x7_1) = true := decide_eq_true c6
          clear c6
          by_cases c8 : (bt a0 x7_1) = 37
          · rw [if_pos c8] at H
            have c8b0 : ((bt a0 x7_1) == 37) = true := beq_iff_eq.mpr c8
            have c8b1 : ((bt a0 x7_1) != 37) = false := bne_eq_false_iff_eq.mpr c8
            clear c8
            have HC9 := Aside0.mk H
            clear H
            have p7 : 0 ≤ (x7_1 : Int) := of_decide_eq_true (by first | (with_reducible assumption) | assumption)
            have q7 : x7_1 < (a0.size : Int) := of_decide_eq_true (by first | (with_reducible assumption) | assumption)
            have hx7 := bt_at a0 x7_1
            replace p7 := eq_true p7
            replace q7 := eq_true q7
            go_upto_region 9 with (fail)
            repeat (go_quiet (fail); go_upto_region 9 with (fail))
            go_cut [61] (fun v61 wc => ∃ (kq : Nat) (x61_8 : Bool), v61 = .bool x61_8 ∧ Aside0 (spec_Unescape.j1 kq a0 a1 x6_1 x7_1 x61_8 = some (r1, r2)) ∧ Aside0 (kq ≤ k1) ∧ Aside0 (Kd.R (Kd.int .u8) 5 wc w.heap.size (fun _ => True) u6 x6_1) ∧ Aside0 (Below w.heap.size w wc))
            case first =>
              have H := HC9.out
              clear HC9
              by_cases c10 : (wrap64 (x7_1 + 2)) ≥ (a0.size : Int)
              · rw [if_pos c10] at H
                have c10b0 : decide ((a0.size : Int) ≤ (wrap64 (x7_1 + 2))) = true := decide_eq_true c10
                clear c10
                (first | rw [c10b0] | (simp only [i64_w, i32_w]; rw [c10b0]) | skip)
                have H' := Aside0.mk H
                clear H
                go_wp2
                repeat (go_quiet (fail); try go_wp2)
                go_meet
                case rel => exact ⟨_, (true), (by first | rfl | (simp; done) | (simp [*]; done)), H', ⟨by have := HK1.out; first | omega | exact Nat.le_refl _⟩, ⟨by (with_reducible repeat (first | apply Kd.R_alloc | apply Kd.R_drewN | apply Kd.R_drew)); exact HO_6.out⟩, ⟨by repeat (first | (with_reducible first | exact HB.out | apply below_alloc | apply pw_below_drewN | apply below_drew1) | exact HB.out)⟩⟩
              · rw [if_neg c10] at H
                have c10b0 : decide ((a0.size : Int) ≤ (wrap64 (x7_1 + 2))) = false := decide_eq_false c10
                clear c10
                (first | rw [c10b0] | (simp only [i64_w, i32_w]; rw [c10b0]) | skip)
                obtain ⟨ji11, hji11⟩ : ∃ j_ : Int, (wrap64 (x7_1 + 1)) = j_ := ⟨_, rfl⟩
                replace H : (if 0 ≤ (ji11) then (if (ji11) < (a0.size : Int) then ((spec_hex.f k1 (bt a0 (ji11))).bind fun t122 => (if t122 < 0 then (spec_Unescape.j1 k1 a0 a1 x6_1 x7_1 true) else (if 0 ≤ (wrap64 (x7_1 + 2)) then (if (wrap64 (x7_1 + 2)) < (a0.size : Int) then ((spec_hex.f k1 (bt a0 (wrap64 (x7_1 + 2)))).bind fun t123 => (spec_Unescape.j1 k1 a0 a1 x6_1 x7_1 (decide (t123 < 0)))) else (none)) else (none)))) else (none)) else (none)) = some (r1, r2) := by first | (rw [hji11] at H; exact H) | (simp only [hji11] at H ⊢; exact H)
                have hji11w : (IntKind.i64.wrap (x7_1 + 1)) = ji11 := (i64_w _).trans hji11
                by_cases c12 : 0 ≤ (ji11)
                · rw [if_pos c12] at H
                  have c12b0 : decide (0 ≤ (ji11)) = true := decide_eq_true c12
                  clear c12
                  by_cases c13 : (ji11) < (a0.size : Int)
                  · rw [if_pos c13] at H
                    have c13b0 : decide ((ji11) < (a0.size : Int)) = true := decide_eq_true c13
                    clear c13
                    replace H := Option.bind_eq_some_iff.mp H
                    obtain ⟨t122, A150, H⟩ := H
                    replace H : (if t122 < 0 then (spec_Unescape.j1 k1 a0 a1 x6_1 x7_1 true) else (if 0 ≤ (wrap64 (x7_1 + 2)) then (if (wrap64 (x7_1 + 2)) < (a0.size : Int) then ((spec_hex.f k1 (bt a0 (wrap64 (x7_1 + 2)))).bind fun t123 => (spec_Unescape.j1 k1 a0 a1 x6_1 x7_1 (decide (t123 < 0)))) else (none)) else (none))) = some (r1, r2) := H
                    have A15 := Aside0.mk A150
                    clear A150
                    by_cases c16 : t122 < 0
                    · rw [if_pos c16] at H
                      have c16b0 : decide (t122 < 0) = true := decide_eq_true c16
                      clear c16
                      have H' := Aside0.mk H
                      clear H
                      have p14 : 0 ≤ ((ji11) : Int) := of_decide_eq_true (by first | (with_reducible assumption) | assumption)
                      have q14 : (ji11) < (a0.size : Int) := of_decide_eq_true (by first | (with_reducible assumption) | assumption)
                      have hx14 := bt_at a0 (ji11)
                      replace p14 := eq_true p14
                      replace q14 := eq_true q14
                      go_wp2_with (first | (go_at_call 64; (with_reducible refine (spec_hex.calls k1 (bt a0 (ji11)) t122 _ A15.out).mono ?_); rintro e w' ⟨rfl, ⟨nd, rfl⟩⟩; (try first | exact ⟨rfl, _, World.drewN_drewN _ _ _⟩ | exact ⟨rfl, _, Eq.trans (World.drewN_drewN _ _ _) (congrArg (World.drewN _) (Nat.add_assoc _ _ _))⟩)))
                      repeat (go_quiet (first | (go_at_call 64; (with_reducible refine (spec_hex.calls k1 (bt a0 (ji11)) t122 _ A15.out).mono ?_); rintro e w' ⟨rfl, ⟨nd, rfl⟩⟩; (try first | exact ⟨rfl, _, World.drewN_drewN _ _ _⟩ | exact ⟨rfl, _, Eq.trans (World.drewN_drewN _ _ _) (congrArg (World.drewN _) (Nat.add_assoc _ _ _))⟩))); try go_wp2_with (first | (go_at_call 64; (with_reducible refine (spec_hex.calls k1 (bt a0 (ji11)) t122 _ A15.out).mono ?_); rintro e w' ⟨rfl, ⟨nd, rfl⟩⟩; (try first | exact ⟨rfl, _, World.drewN_drewN _ _ _⟩ | exact ⟨rfl, _, Eq.trans (World.drewN_drewN _ _ _) (congrArg (World.drewN _) (Nat.add_assoc _ _ _))⟩))))
                      go_meet
                      case rel => exact ⟨_, (true), (by first | rfl | (simp; done) | (simp [*]; done)), H', ⟨by have := HK1.out; first | omega | exact Nat.le_refl _⟩, ⟨by (with_reducible repeat (first | apply Kd.R_alloc | apply Kd.R_drewN | apply Kd.R_drew)); exact HO_6.out⟩, ⟨by repeat (first | (with_reducible first | exact HB.out | apply below_alloc | apply pw_below_drewN | apply below_drew1) | exact HB.out)⟩⟩
                    · rw [if_neg c16] at H
                      have c16b0 : decide (t122 < 0) = false := decide_eq_false c16
                      clear c16
                      obtain ⟨ji17, hji17⟩ : ∃ j_ : Int, (wrap64 (x7_1 + 2)) = j_ := ⟨_, rfl⟩
                      replace H : (if 0 ≤ (ji17) then (if (ji17) < (a0.size : Int) then ((spec_hex.f k1 (bt a0 (ji17))).bind fun t123 => (spec_Unescape.j1 k1 a0 a1 x6_1 x7_1 (decide (t123 < 0)))) else (none)) else (none)) = some (r1, r2) := by first | (rw [hji17] at H; exact H) | (simp only [hji17] at H ⊢; exact H)
                      (try rw [hji17] at c10b0)
                      (try rw [hji17] at A15)
                      have hji17w : (IntKind.i64.wrap (x7_1 + 2)) = ji17 := (i64_w _).trans hji17
                      by_cases c18 : 0 ≤ (ji17)
                      · rw [if_pos c18] at H
                        have c18b0 : decide (0 ≤ (ji17)) = true := decide_eq_true c18
                        clear c18
                        by_cases c19 : (ji17) < (a0.size : Int)
                        · rw [if_pos c19] at H
                          have c19b0 : decide ((ji17) < (a0.size : Int)) = true := decide_eq_true c19
                          clear c19
                          replace H := Option.bind_eq_some_iff.mp H
                          obtain ⟨t123, A210, H⟩ := H
                          replace H : (spec_Unescape.j1 k1 a0 a1 x6_1 x7_1 (decide (t123 < 0))) = some (r1, r2) := H
                          have A21 := Aside0.mk A210
                          clear A210
                          have H' := Aside0.mk H
                          clear H
                          have p14 : 0 ≤ ((ji11) : Int) := of_decide_eq_true (by first | (with_reducible assumption) | assumption)
                          have q14 : (ji11) < (a0.size : Int) := of_decide_eq_true (by first | (with_reducible assumption) | assumption)
                          have hx14 := bt_at a0 (ji11)
                          replace p14 := eq_true p14
                          replace q14 := eq_true q14
                          go_wp2_with (first | (go_at_call 64; (with_reducible refine (spec_hex.calls k1 (bt a0 (ji11)) t122 _ A15.out).mono ?_); rintro e w' ⟨rfl, ⟨nd, rfl⟩⟩; (try first | exact ⟨rfl, _, World.drewN_drewN _ _ _⟩ | exact ⟨rfl, _, Eq.trans (World.drewN_drewN _ _ _) (congrArg (World.drewN _) (Nat.add_assoc _ _ _))⟩); have p20 : 0 ≤ ((ji17) : Int) := of_decide_eq_true (by first | (with_reducible assumption) | assumption); have q20 : (ji17) < (a0.size : Int) := of_decide_eq_true (by first | (with_reducible assumption) | assumption); have hx20 := bt_at a0 (ji17); replace p20 := eq_true p20; replace q20 := eq_true q20) | (go_at_call 64; (with_reducible refine (spec_hex.calls k1 (bt a0 (ji17)) t123 _ A21.out).mono ?_); rintro e w' ⟨rfl, ⟨nd, rfl⟩⟩; (try first | exact ⟨rfl, _, World.drewN_drewN _ _ _⟩ | exact ⟨rfl, _, Eq.trans (World.drewN_drewN _ _ _) (congrArg (World.drewN _) (Nat.add_assoc _ _ _))⟩)))
                          repeat (go_quiet (first | (go_at_call 64; (with_reducible refine (spec_hex.calls k1 (bt a0 (ji11)) t122 _ A15.out).mono ?_); rintro e w' ⟨rfl, ⟨nd, rfl⟩⟩; (try first | exact ⟨rfl, _, World.drewN_drewN _ _ _⟩ | exact ⟨rfl, _, Eq.trans (World.drewN_drewN _ _ _) (congrArg (World.drewN _) (Nat.add_assoc _ _ _))⟩); have p20 : 0 ≤ ((ji17) : Int) := of_decide_eq_true (by first | (with_reducible assumption) | assumption); have q20 : (ji17) < (a0.size : Int) := of_decide_eq_true (by first | (with_reducible assumption) | assumption); have hx20 := bt_at a0 (ji17); replace p20 := eq_true p20; replace q20 := eq_true q20) | (go_at_call 64; (with_reducible refine (spec_hex.calls k1 (bt a0 (ji17)) t123 _ A21.out).mono ?_); rintro e w' ⟨rfl, ⟨nd, rfl⟩⟩; (try first | exact ⟨rfl, _, World.drewN_drewN _ _ _⟩ | exact ⟨rfl, _, Eq.trans (World.drewN_drewN _ _ _) (congrArg (World.drewN _) (Nat.add_assoc _ _ _))⟩))); try go_wp2_with (first | (go_at_call 64; (with_reducible refine (spec_hex.calls k1 (bt a0 (ji11)) t122 _ A15.out).mono ?_); rintro e w' ⟨rfl, ⟨nd, rfl⟩⟩; (try first | exact ⟨rfl, _, World.drewN_drewN _ _ _⟩ | exact ⟨rfl, _, Eq.trans (World.drewN_drewN _ _ _) (congrArg (World.drewN _) (Nat.add_assoc _ _ _))⟩); have p20 : 0 ≤ ((ji17) : Int) := of_decide_eq_true (by first | (with_reducible assumption) | assumption); have q20 : (ji17) < (a0.size : Int) := of_decide_eq_true (by first | (with_reducible assumption) | assumption); have hx20 := bt_at a0 (ji17); replace p20 := eq_true p20; replace q20 := eq_true q20) | (go_at_call 64; (with_reducible refine (spec_hex.calls k1 (bt a0 (ji17)) t123 _ A21.out).mono ?_); rintro e w' ⟨rfl, ⟨nd, rfl⟩⟩; (try first | exact ⟨rfl, _, World.drewN_drewN _ _ _⟩ | exact ⟨rfl, _, Eq.trans (World.drewN_drewN _ _ _) (congrArg (World.drewN _) (Nat.add_assoc _ _ _))⟩))))
                          go_meet
                          case rel => exact ⟨_, (decide (t123 < 0)), (by first | rfl | (simp; done) | (simp [*]; done)), H', ⟨by have := HK1.out; first | omega | exact Nat.le_refl _⟩, ⟨by (with_reducible repeat (first | apply Kd.R_alloc | apply Kd.R_drewN | apply Kd.R_drew)); exact HO_6.out⟩, ⟨by repeat (first | (with_reducible first | exact HB.out | apply below_alloc | apply pw_below_drewN | apply below_drew1) | exact HB.out)⟩⟩
                        · rw [if_neg c19] at H
                          exact absurd H (by simp)
                      · rw [if_neg c18] at H
                        exact absurd H (by simp)
                  · rw [if_neg c13] at H
                    exact absurd H (by simp)
                · rw [if_neg c12] at H
                  exact absurd H (by simp)
            case rest =>
              clear HC9
              try clear c1
              try clear p1
              try clear q1
              try clear hx1
              try clear p2
              try clear q2
              try clear hx2
              try clear c3
              try clear c5
              try clear c5b0
              try clear c6
              try clear c6b0
              try clear p6
              try clear p7
              try clear q7
              try clear hx7
              try clear c8
              try clear c8b0
              try clear c8b1
              try clear c10
              try clear c10b0
              try clear c12
              try clear c12b0
              try clear c13
              try clear c13b0
              try clear p14
              try clear q14
              try clear hx14
              try clear c16
              try clear c16b0
              try clear c18
              try clear c18b0
              try clear c19
              try clear c19b0
              try clear p20
              try clear q20
              try clear hx20
              try clear p14
              try clear p2
              try clear p20
              try clear p7
              try clear q14
              try clear q20
              try clear q7
              obtain ⟨kq, x61_8, rfl, HA, HJ8, HO_6, HB⟩ := hcut
              cases kq with
              | zero => exact absurd HA.out (by simp [spec_Unescape.j1])
              | succ kj8 =>
                have H := HA.out
                clear HA
                simp only [spec_Unescape.j1] at H
                by_cases c22 : x61_8 = true
                · subst c22
                  have H1 : (some ((⟨#[]⟩ : ByteArray), false)) = some (r1, r2) := by rw [if_pos rfl] at H; exact H
                  clear H
                  have H := H1
                  clear H1
                  simp only [Option.some.injEq, Prod.mk.injEq] at H
                  obtain ⟨rfl, rfl⟩ := H
                  go_wp2
                  repeat (go_quiet (fail); try go_wp2)
                  go_ret2
                  exact ⟨by first | rfl | (simp [errW_none, errW_some] <;> rfl) | (simp [*, errW_none, errW_some] <;> rfl), by repeat (first | (with_reducible first | exact HB.out | apply below_alloc | apply pw_below_drewN | apply below_drew1) | exact HB.out)⟩
                · replace c22 := Bool.eq_false_iff.mpr c22
                  subst c22
                  have H1 : (if 0 ≤ (wrap64 (x7_1 + 1)) then (if (wrap64 (x7_1 + 1)) < (a0.size : Int) then ((spec_hex.f kj8 (bt a0 (wrap64 (x7_1 + 1)))).bind fun t124 => (if 0 ≤ (wrap64 (x7_1 + 2)) then (if (wrap64 (x7_1 + 2)) < (a0.size : Int) then ((spec_hex.f kj8 (bt a0 (wrap64 (x7_1 + 2)))).bind fun t125 => (if a1 = 2 then (if (wrap64 ((wrap64 (t124 * 16)) + t125)) < 128 then (if (wrap64 ((wrap64 (t124 * 16)) + t125)) = 37 then (if x6_1.length < 140737488355328 then (spec_Unescape.l0 kj8 a0 a1 (x6_1 ++ [(wrap64 ((wrap64 (t124 * 16)) + t125)) % 256]) (wrap64 ((wrap64 (x7_1 + 2)) + 1))) else (none)) else (some ((⟨#[]⟩ : ByteArray), false))) else (if x6_1.length < 140737488355328 then (spec_Unescape.l0 kj8 a0 a1 (x6_1 ++ [(wrap64 ((wrap64 (t124 * 16)) + t125)) % 256]) (wrap64 ((wrap64 (x7_1 + 2)) + 1))) else (none))) else (if x6_1.length < 140737488355328 then (spec_Unescape.l0 kj8 a0 a1 (x6_1 ++ [(wrap64 ((wrap64 (t124 * 16)) + t125)) % 256]) (wrap64 ((wrap64 (x7_1 + 2)) + 1))) else (none)))) else (none)) else (none))) else (none)) else (none)) = some (r1, r2) := by rw [if_neg (show ¬ (false = true) by decide)] at H; exact H
                  clear H
                  have H := H1
                  clear H1
                  obtain ⟨ji23, hji23⟩ : ∃ j_ : Int, (wrap64 (x7_1 + 1)) = j_ := ⟨_, rfl⟩
                  replace H : (if 0 ≤ (ji23) then (if (ji23) < (a0.size : Int) then ((spec_hex.f kj8 (bt a0 (ji23))).bind fun t124 => (if 0 ≤ (wrap64 (x7_1 + 2)) then (if (wrap64 (x7_1 + 2)) < (a0.size : Int) then ((spec_hex.f kj8 (bt a0 (wrap64 (x7_1 + 2)))).bind fun t125 => (if a1 = 2 then (if (wrap64 ((wrap64 (t124 * 16)) + t125)) < 128 then (if (wrap64 ((wrap64 (t124 * 16)) + t125)) = 37 then (if x6_1.length < 140737488355328 then (spec_Unescape.l0 kj8 a0 a1 (x6_1 ++ [(wrap64 ((wrap64 (t124 * 16)) + t125)) % 256]) (wrap64 ((wrap64 (x7_1 + 2)) + 1))) else (none)) else (some ((⟨#[]⟩ : ByteArray), false))) else (if x6_1.length < 140737488355328 then (spec_Unescape.l0 kj8 a0 a1 (x6_1 ++ [(wrap64 ((wrap64 (t124 * 16)) + t125)) % 256]) (wrap64 ((wrap64 (x7_1 + 2)) + 1))) else (none))) else (if x6_1.length < 140737488355328 then (spec_Unescape.l0 kj8 a0 a1 (x6_1 ++ [(wrap64 ((wrap64 (t124 * 16)) + t125)) % 256]) (wrap64 ((wrap64 (x7_1 + 2)) + 1))) else (none)))) else (none)) else (none))) else (none)) else (none)) = some (r1, r2) := by first | (rw [hji23] at H; exact H) | (simp only [hji23] at H ⊢; exact H)
                  have hji23w : (IntKind.i64.wrap (x7_1 + 1)) = ji23 := (i64_w _).trans hji23
                  by_cases c24 : 0 ≤ (ji23)
                  · rw [if_pos c24] at H
                    have c24b0 : decide (0 ≤ (ji23)) = true := decide_eq_true c24
                    clear c24
                    by_cases c25 : (ji23) < (a0.size : Int)
                    · rw [if_pos c25] at H
                      have c25b0 : decide ((ji23) < (a0.size : Int)) = true := decide_eq_true c25
                      clear c25
                      replace H := Option.bind_eq_some_iff.mp H
                      obtain ⟨t124, A270, H⟩ := H
                      replace H : (if 0 ≤ (wrap64 (x7_1 + 2)) then (if (wrap64 (x7_1 + 2)) < (a0.size : Int) then ((spec_hex.f kj8 (bt a0 (wrap64 (x7_1 + 2)))).bind fun t125 => (if a1 = 2 then (if (wrap64 ((wrap64 (t124 * 16)) + t125)) < 128 then (if (wrap64 ((wrap64 (t124 * 16)) + t125)) = 37 then (if x6_1.length < 140737488355328 then (spec_Unescape.l0 kj8 a0 a1 (x6_1 ++ [(wrap64 ((wrap64 (t124 * 16)) + t125)) % 256]) (wrap64 ((wrap64 (x7_1 + 2)) + 1))) else (none)) else (some ((⟨#[]⟩ : ByteArray), false))) else (if x6_1.length < 140737488355328 then (spec_Unescape.l0 kj8 a0 a1 (x6_1 ++ [(wrap64 ((wrap64 (t124 * 16)) + t125)) % 256]) (wrap64 ((wrap64 (x7_1 + 2)) + 1))) else (none))) else (if x6_1.length < 140737488355328 then (spec_Unescape.l0 kj8 a0 a1 (x6_1 ++ [(wrap64 ((wrap64 (t124 * 16)) + t125)) % 256]) (wrap64 ((wrap64 (x7_1 + 2)) + 1))) else (none)))) else (none)) else (none)) = some (r1, r2) := H
                      have A27 := Aside0.mk A270
                      clear A270
                      obtain ⟨ji28, hji28⟩ : ∃ j_ : Int, (wrap64 (x7_1 + 2)) = j_ := ⟨_, rfl⟩
                      replace H : (if 0 ≤ (ji28) then (if (ji28) < (a0.size : Int) then ((spec_hex.f kj8 (bt a0 (ji28))).bind fun t125 => (if a1 = 2 then (if (wrap64 ((wrap64 (t124 * 16)) + t125)) < 128 then (if (wrap64 ((wrap64 (t124 * 16)) + t125)) = 37 then (if x6_1.length < 140737488355328 then (spec_Unescape.l0 kj8 a0 a1 (x6_1 ++ [(wrap64 ((wrap64 (t124 * 16)) + t125)) % 256]) (wrap64 ((ji28) + 1))) else (none)) else (some ((⟨#[]⟩ : ByteArray), false))) else (if x6_1.length < 140737488355328 then (spec_Unescape.l0 kj8 a0 a1 (x6_1 ++ [(wrap64 ((wrap64 (t124 * 16)) + t125)) % 256]) (wrap64 ((ji28) + 1))) else (none))) else (if x6_1.length < 140737488355328 then (spec_Unescape.l0 kj8 a0 a1 (x6_1 ++ [(wrap64 ((wrap64 (t124 * 16)) + t125)) % 256]) (wrap64 ((ji28) + 1))) else (none)))) else (none)) else (none)) = some (r1, r2) := by first | (rw [hji28] at H; exact H) | (simp only [hji28] at H ⊢; exact H)
                      (try rw [hji28] at A27)
                      have hji28w : (IntKind.i64.wrap (x7_1 + 2)) = ji28 := (i64_w _).trans hji28
                      by_cases c29 : 0 ≤ (ji28)
                      · rw [if_pos c29] at H
                        have c29b0 : decide (0 ≤ (ji28)) = true := decide_eq_true c29
                        clear c29
                        by_cases c30 : (ji28) < (a0.size : Int)
                        · rw [if_pos c30] at H
                          have c30b0 : decide ((ji28) < (a0.size : Int)) = true := decide_eq_true c30
                          clear c30
                          replace H := Option.bind_eq_some_iff.mp H
                          obtain ⟨t125, A320, H⟩ := H
                          replace H : (if a1 = 2 then (if (wrap64 ((wrap64 (t124 * 16)) + t125)) < 128 then (if (wrap64 ((wrap64 (t124 * 16)) + t125)) = 37 then (if x6_1.length < 140737488355328 then (spec_Unescape.l0 kj8 a0 a1 (x6_1 ++ [(wrap64 ((wrap64 (t124 * 16)) + t125)) % 256]) (wrap64 ((ji28) + 1))) else (none)) else (some ((⟨#[]⟩ : ByteArray), false))) else (if x6_1.length < 140737488355328 then (spec_Unescape.l0 kj8 a0 a1 (x6_1 ++ [(wrap64 ((wrap64 (t124 * 16)) + t125)) % 256]) (wrap64 ((ji28) + 1))) else (none))) else (if x6_1.length < 140737488355328 then (spec_Unescape.l0 kj8 a0 a1 (x6_1 ++ [(wrap64 ((wrap64 (t124 * 16)) + t125)) % 256]) (wrap64 ((ji28) + 1))) else (none))) = some (r1, r2) := H
                          have A32 := Aside0.mk A320
                          clear A320
                          by_cases c33 : a1 = 2
                          · rw [if_pos c33] at H
                            have c33b0 : (a1 == 2) = true := beq_iff_eq.mpr c33
                            have c33b1 : (a1 != 2) = false := bne_eq_false_iff_eq.mpr c33
                            clear c33
                            by_cases c34 : (wrap64 ((wrap64 (t124 * 16)) + t125)) < 128
                            · rw [if_pos c34] at H
                              have c34b0 : decide ((wrap64 ((wrap64 (t124 * 16)) + t125)) < 128) = true := decide_eq_true c34
                              clear c34
                              by_cases c35 : (wrap64 ((wrap64 (t124 * 16)) + t125)) = 37
                              · rw [if_pos c35] at H
                                have c35b0 : ((wrap64 ((wrap64 (t124 * 16)) + t125)) == 37) = true := beq_iff_eq.mpr c35
                                have c35b1 : ((wrap64 ((wrap64 (t124 * 16)) + t125)) != 37) = false := bne_eq_false_iff_eq.mpr c35
                                clear c35
                                by_cases c36 : x6_1.length < 140737488355328
                                · rw [if_pos c36] at H
                                  have LMc36 := Aside0.mk c36
                                  clear c36
                                  obtain ⟨y126, hy126⟩ : ∃ y_ : List Int, y_ = (x6_1 ++ [(wrap64 ((wrap64 (t124 * 16)) + t125)) % 256]) := ⟨_, rfl⟩
                                  replace H : (spec_Unescape.l0 kj8 a0 a1 y126 (wrap64 ((ji28) + 1))) = some (r1, r2) := by first | (rw [hy126]; with_reducible exact H) | (have H2_ := (Option.bind_some _ _).symm.trans H; rw [hy126]; with_reducible exact H2_) | (have H2_ := (Option.bind_some _ _).symm.trans H; with_reducible exact H2_) | with_reducible exact H | (rw [hy126]; exact H) | exact H
                                  have Ny126 := Aside0.mk hy126
                                  clear hy126
                                  have H' := Aside0.mk H
                                  clear H
                                  have p26 : 0 ≤ ((ji23) : Int) := of_decide_eq_true (by first | (with_reducible assumption) | assumption)
                                  have q26 : (ji23) < (a0.size : Int) := of_decide_eq_true (by first | (with_reducible assumption) | assumption)
                                  have hx26 := bt_at a0 (ji23)
                                  replace p26 := eq_true p26
                                  replace q26 := eq_true q26
                                  go_wp2_with (first | (go_at_call 64; (with_reducible refine (spec_hex.calls kj8 (bt a0 (ji23)) t124 _ A27.out).mono ?_); rintro e w' ⟨rfl, ⟨nd, rfl⟩⟩; (try first | exact ⟨rfl, _, World.drewN_drewN _ _ _⟩ | exact ⟨rfl, _, Eq.trans (World.drewN_drewN _ _ _) (congrArg (World.drewN _) (Nat.add_assoc _ _ _))⟩); have p31 : 0 ≤ ((ji28) : Int) := of_decide_eq_true (by first | (with_reducible assumption) | assumption); have q31 : (ji28) < (a0.size : Int) := of_decide_eq_true (by first | (with_reducible assumption) | assumption); have hx31 := bt_at a0 (ji28); replace p31 := eq_true p31; replace q31 := eq_true q31) | (go_at_call 64; (with_reducible refine (spec_hex.calls kj8 (bt a0 (ji28)) t125 _ A32.out).mono ?_); rintro e w' ⟨rfl, ⟨nd, rfl⟩⟩; (try first | exact ⟨rfl, _, World.drewN_drewN _ _ _⟩ | exact ⟨rfl, _, Eq.trans (World.drewN_drewN _ _ _) (congrArg (World.drewN _) (Nat.add_assoc _ _ _))⟩)) | ((with_reducible refine gate_builtin (b := .append) (xs := #[.tmp 84, .tmp 87]) rfl ?_); at_builtin; refine Kd.R_append (Kd.int .u8) (w0 := w) w.heap.size rfl (.tmp 84) (.tmp 87) 70 5 (.int .u8 0) 1 rfl Tryz.underlying70 info5 rfl (by decide) (by omega) u6 x6_1 ((wrap64 ((wrap64 (t124 * 16)) + t125)) % 256) [.int .u8 ((wrap64 ((wrap64 (t124 * 16)) + t125)) % 256)] (fun _ => True) (fun _ => False) rfl rfl ?aP (fun _ hk => hk.elim) ?aF ?aO ?aB ?aS ?aL ?_; (case aP => exact rfl); (case aB => exact (by repeat (first | (with_reducible first | exact HB.out | apply below_alloc | apply pw_below_drewN | apply below_drew1) | exact HB.out))); (case aF => exact (fun _ _ => trivial)); (case aO => exact (by (with_reducible repeat (first | apply Kd.R_alloc | apply Kd.R_drewN | apply Kd.R_drew)); exact HO_6.out)); (case aS => exact (below_size (by repeat (first | (with_reducible first | exact HB.out | apply below_alloc | apply pw_below_drewN | apply below_drew1) | exact HB.out)))); (case aL => have := LMc36.out; omega); intro v127 w37 ho hb hg hat; rw [← Ny126.out] at ho; have n0_ := Aside0.mk (hb); have n1_ := Aside0.mk (ho); clear HB; clear HO_6; have HB := n0_; have HO128 := n1_; clear n0_ n1_; clear ho hb hg hat))
                                  repeat (go_quiet (first | (go_at_call 64; (with_reducible refine (spec_hex.calls kj8 (bt a0 (ji23)) t124 _ A27.out).mono ?_); rintro e w' ⟨rfl, ⟨nd, rfl⟩⟩; (try first | exact ⟨rfl, _, World.drewN_drewN _ _ _⟩ | exact ⟨rfl, _, Eq.trans (World.drewN_drewN _ _ _) (congrArg (World.drewN _) (Nat.add_assoc _ _ _))⟩); have p31 : 0 ≤ ((ji28) : Int) := of_decide_eq_true (by first | (with_reducible assumption) | assumption); have q31 : (ji28) < (a0.size : Int) := of_decide_eq_true (by first | (with_reducible assumption) | assumption); have hx31 := bt_at a0 (ji28); replace p31 := eq_true p31; replace q31 := eq_true q31) | (go_at_call 64; (with_reducible refine (spec_hex.calls kj8 (bt a0 (ji28)) t125 _ A32.out).mono ?_); rintro e w' ⟨rfl, ⟨nd, rfl⟩⟩; (try first | exact ⟨rfl, _, World.drewN_drewN _ _ _⟩ | exact ⟨rfl, _, Eq.trans (World.drewN_drewN _ _ _) (congrArg (World.drewN _) (Nat.add_assoc _ _ _))⟩)) | ((with_reducible refine gate_builtin (b := .append) (xs := #[.tmp 84, .tmp 87]) rfl ?_); at_builtin; refine Kd.R_append (Kd.int .u8) (w0 := w) w.heap.size rfl (.tmp 84) (.tmp 87) 70 5 (.int .u8 0) 1 rfl Tryz.underlying70 info5 rfl (by decide) (by omega) u6 x6_1 ((wrap64 ((wrap64 (t124 * 16)) + t125)) % 256) [.int .u8 ((wrap64 ((wrap64 (t124 * 16)) + t125)) % 256)] (fun _ => True) (fun _ => False) rfl rfl ?aP (fun _ hk => hk.elim) ?aF ?aO ?aB ?aS ?aL ?_; (case aP => exact rfl); (case aB => exact (by repeat (first | (with_reducible first | exact HB.out | apply below_alloc | apply pw_below_drewN | apply below_drew1) | exact HB.out))); (case aF => exact (fun _ _ => trivial)); (case aO => exact (by (with_reducible repeat (first | apply Kd.R_alloc | apply Kd.R_drewN | apply Kd.R_drew)); exact HO_6.out)); (case aS => exact (below_size (by repeat (first | (with_reducible first | exact HB.out | apply below_alloc | apply pw_below_drewN | apply below_drew1) | exact HB.out)))); (case aL => have := LMc36.out; omega); intro v127 w37 ho hb hg hat; rw [← Ny126.out] at ho; have n0_ := Aside0.mk (hb); have n1_ := Aside0.mk (ho); clear HB; clear HO_6; have HB := n0_; have HO128 := n1_; clear n0_ n1_; clear ho hb hg hat)); try go_wp2_with (first | (go_at_call 64; (with_reducible refine (spec_hex.calls kj8 (bt a0 (ji23)) t124 _ A27.out).mono ?_); rintro e w' ⟨rfl, ⟨nd, rfl⟩⟩; (try first | exact ⟨rfl, _, World.drewN_drewN _ _ _⟩ | exact ⟨rfl, _, Eq.trans (World.drewN_drewN _ _ _) (congrArg (World.drewN _) (Nat.add_assoc _ _ _))⟩); have p31 : 0 ≤ ((ji28) : Int) := of_decide_eq_true (by first | (with_reducible assumption) | assumption); have q31 : (ji28) < (a0.size : Int) := of_decide_eq_true (by first | (with_reducible assumption) | assumption); have hx31 := bt_at a0 (ji28); replace p31 := eq_true p31; replace q31 := eq_true q31) | (go_at_call 64; (with_reducible refine (spec_hex.calls kj8 (bt a0 (ji28)) t125 _ A32.out).mono ?_); rintro e w' ⟨rfl, ⟨nd, rfl⟩⟩; (try first | exact ⟨rfl, _, World.drewN_drewN _ _ _⟩ | exact ⟨rfl, _, Eq.trans (World.drewN_drewN _ _ _) (congrArg (World.drewN _) (Nat.add_assoc _ _ _))⟩)) | ((with_reducible refine gate_builtin (b := .append) (xs := #[.tmp 84, .tmp 87]) rfl ?_); at_builtin; refine Kd.R_append (Kd.int .u8) (w0 := w) w.heap.size rfl (.tmp 84) (.tmp 87) 70 5 (.int .u8 0) 1 rfl Tryz.underlying70 info5 rfl (by decide) (by omega) u6 x6_1 ((wrap64 ((wrap64 (t124 * 16)) + t125)) % 256) [.int .u8 ((wrap64 ((wrap64 (t124 * 16)) + t125)) % 256)] (fun _ => True) (fun _ => False) rfl rfl ?aP (fun _ hk => hk.elim) ?aF ?aO ?aB ?aS ?aL ?_; (case aP => exact rfl); (case aB => exact (by repeat (first | (with_reducible first | exact HB.out | apply below_alloc | apply pw_below_drewN | apply below_drew1) | exact HB.out))); (case aF => exact (fun _ _ => trivial)); (case aO => exact (by (with_reducible repeat (first | apply Kd.R_alloc | apply Kd.R_drewN | apply Kd.R_drew)); exact HO_6.out)); (case aS => exact (below_size (by repeat (first | (with_reducible first | exact HB.out | apply below_alloc | apply pw_below_drewN | apply below_drew1) | exact HB.out)))); (case aL => have := LMc36.out; omega); intro v127 w37 ho hb hg hat; rw [← Ny126.out] at ho; have n0_ := Aside0.mk (hb); have n1_ := Aside0.mk (ho); clear HB; clear HO_6; have HB := n0_; have HO128 := n1_; clear n0_ n1_; clear ho hb hg hat)))
                                  go_roundg kj8
                                  case measure => have := HK1.out; have := HJ8.out; omega
                                  case rel => exact ⟨(y126), (wrap64 ((ji28) + 1)), (by first | rfl | (simp; done) | (simp only [← hji28] <;> (first | rfl | simp)) | (simp [*]; done)), H', ⟨by have := HK1.out; have := HJ8.out; omega⟩, ⟨by (with_reducible repeat (first | apply Kd.R_alloc | apply Kd.R_drewN | apply Kd.R_drew)); exact HO128.out⟩, ⟨by repeat (first | (with_reducible first | exact HB.out | apply below_alloc | apply pw_below_drewN | apply below_drew1) | exact HB.out)⟩⟩
                                · rw [if_neg c36] at H
                                  exact absurd H (by simp)
                              · rw [if_neg c35] at H
                                have c35b0 : ((wrap64 ((wrap64 (t124 * 16)) + t125)) == 37) = false := beq_eq_false_iff_ne.mpr c35
                                have c35b1 : ((wrap64 ((wrap64 (t124 * 16)) + t125)) != 37) = true := bne_iff_ne.mpr c35
                                simp only [Option.some.injEq, Prod.mk.injEq] at H
                                obtain ⟨rfl, rfl⟩ := H
                                have p26 : 0 ≤ ((ji23) : Int) := of_decide_eq_true (by first | (with_reducible assumption) | assumption)
                                have q26 : (ji23) < (a0.size : Int) := of_decide_eq_true (by first | (with_reducible assumption) | assumption)
                                have hx26 := bt_at a0 (ji23)
                                replace p26 := eq_true p26
                                replace q26 := eq_true q26
                                go_wp2_with (first | (go_at_call 64; (with_reducible refine (spec_hex.calls kj8 (bt a0 (ji23)) t124 _ A27.out).mono ?_); rintro e w' ⟨rfl, ⟨nd, rfl⟩⟩; (try first | exact ⟨rfl, _, World.drewN_drewN _ _ _⟩ | exact ⟨rfl, _, Eq.trans (World.drewN_drewN _ _ _) (congrArg (World.drewN _) (Nat.add_assoc _ _ _))⟩); have p31 : 0 ≤ ((ji28) : Int) := of_decide_eq_true (by first | (with_reducible assumption) | assumption); have q31 : (ji28) < (a0.size : Int) := of_decide_eq_true (by first | (with_reducible assumption) | assumption); have hx31 := bt_at a0 (ji28); replace p31 := eq_true p31; replace q31 := eq_true q31) | (go_at_call 64; (with_reducible refine (spec_hex.calls kj8 (bt a0 (ji28)) t125 _ A32.out).mono ?_); rintro e w' ⟨rfl, ⟨nd, rfl⟩⟩; (try first | exact ⟨rfl, _, World.drewN_drewN _ _ _⟩ | exact ⟨rfl, _, Eq.trans (World.drewN_drewN _ _ _) (congrArg (World.drewN _) (Nat.add_assoc _ _ _))⟩)))
                                repeat (go_quiet (first | (go_at_call 64; (with_reducible refine (spec_hex.calls kj8 (bt a0 (ji23)) t124 _ A27.out).mono ?_); rintro e w' ⟨rfl, ⟨nd, rfl⟩⟩; (try first | exact ⟨rfl, _, World.drewN_drewN _ _ _⟩ | exact ⟨rfl, _, Eq.trans (World.drewN_drewN _ _ _) (congrArg (World.drewN _) (Nat.add_assoc _ _ _))⟩); have p31 : 0 ≤ ((ji28) : Int) := of_decide_eq_true (by first | (with_reducible assumption) | assumption); have q31 : (ji28) < (a0.size : Int) := of_decide_eq_true (by first | (with_reducible assumption) | assumption); have hx31 := bt_at a0 (ji28); replace p31 := eq_true p31; replace q31 := eq_true q31) | (go_at_call 64; (with_reducible refine (spec_hex.calls kj8 (bt a0 (ji28)) t125 _ A32.out).mono ?_); rintro e w' ⟨rfl, ⟨nd, rfl⟩⟩; (try first | exact ⟨rfl, _, World.drewN_drewN _ _ _⟩ | exact ⟨rfl, _, Eq.trans (World.drewN_drewN _ _ _) (congrArg (World.drewN _) (Nat.add_assoc _ _ _))⟩))); try go_wp2_with (first | (go_at_call 64; (with_reducible refine (spec_hex.calls kj8 (bt a0 (ji23)) t124 _ A27.out).mono ?_); rintro e w' ⟨rfl, ⟨nd, rfl⟩⟩; (try first | exact ⟨rfl, _, World.drewN_drewN _ _ _⟩ | exact ⟨rfl, _, Eq.trans (World.drewN_drewN _ _ _) (congrArg (World.drewN _) (Nat.add_assoc _ _ _))⟩); have p31 : 0 ≤ ((ji28) : Int) := of_decide_eq_true (by first | (with_reducible assumption) | assumption); have q31 : (ji28) < (a0.size : Int) := of_decide_eq_true (by first | (with_reducible assumption) | assumption); have hx31 := bt_at a0 (ji28); replace p31 := eq_true p31; replace q31 := eq_true q31) | (go_at_call 64; (with_reducible refine (spec_hex.calls kj8 (bt a0 (ji28)) t125 _ A32.out).mono ?_); rintro e w' ⟨rfl, ⟨nd, rfl⟩⟩; (try first | exact ⟨rfl, _, World.drewN_drewN _ _ _⟩ | exact ⟨rfl, _, Eq.trans (World.drewN_drewN _ _ _) (congrArg (World.drewN _) (Nat.add_assoc _ _ _))⟩))))
                                go_ret2
                                exact ⟨by first | rfl | (simp [errW_none, errW_some] <;> rfl) | (simp only [← hji23, ← hji28]; first | rfl | (simp [errW_none, errW_some] <;> rfl)) | (simp [*, errW_none, errW_some] <;> rfl), by repeat (first | (with_reducible first | exact HB.out | apply below_alloc | apply pw_below_drewN | apply below_drew1) | exact HB.out)⟩
                            · rw [if_neg c34] at H
                              have c34b0 : decide ((wrap64 ((wrap64 (t124 * 16)) + t125)) < 128) = false := decide_eq_false c34
                              clear c34
                              by_cases c38 : x6_1.length < 140737488355328
                              · rw [if_pos c38] at H
                                have LMc38 := Aside0.mk c38
                                clear c38
                                obtain ⟨y129, hy129⟩ : ∃ y_ : List Int, y_ = (x6_1 ++ [(wrap64 ((wrap64 (t124 * 16)) + t125)) % 256]) := ⟨_, rfl⟩
                                replace H : (spec_Unescape.l0 kj8 a0 a1 y129 (wrap64 ((ji28) + 1))) = some (r1, r2) := by first | (rw [hy129]; with_reducible exact H) | (have H2_ := (Option.bind_some _ _).symm.trans H; rw [hy129]; with_reducible exact H2_) | (have H2_ := (Option.bind_some _ _).symm.trans H; with_reducible exact H2_) | with_reducible exact H | (rw [hy129]; exact H) | exact H
                                have Ny129 := Aside0.mk hy129
                                clear hy129
                                have H' := Aside0.mk H
                                clear H
                                have p26 : 0 ≤ ((ji23) : Int) := of_decide_eq_true (by first | (with_reducible assumption) | assumption)
                                have q26 : (ji23) < (a0.size : Int) := of_decide_eq_true (by first | (with_reducible assumption) | assumption)
                                have hx26 := bt_at a0 (ji23)
                                replace p26 := eq_true p26
                                replace q26 := eq_true q26
                                go_wp2_with (first | (go_at_call 64; (with_reducible refine (spec_hex.calls kj8 (bt a0 (ji23)) t124 _ A27.out).mono ?_); rintro e w' ⟨rfl, ⟨nd, rfl⟩⟩; (try first | exact ⟨rfl, _, World.drewN_drewN _ _ _⟩ | exact ⟨rfl, _, Eq.trans (World.drewN_drewN _ _ _) (congrArg (World.drewN _) (Nat.add_assoc _ _ _))⟩); have p31 : 0 ≤ ((ji28) : Int) := of_decide_eq_true (by first | (with_reducible assumption) | assumption); have q31 : (ji28) < (a0.size : Int) := of_decide_eq_true (by first | (with_reducible assumption) | assumption); have hx31 := bt_at a0 (ji28); replace p31 := eq_true p31; replace q31 := eq_true q31) | (go_at_call 64; (with_reducible refine (spec_hex.calls kj8 (bt a0 (ji28)) t125 _ A32.out).mono ?_); rintro e w' ⟨rfl, ⟨nd, rfl⟩⟩; (try first | exact ⟨rfl, _, World.drewN_drewN _ _ _⟩ | exact ⟨rfl, _, Eq.trans (World.drewN_drewN _ _ _) (congrArg (World.drewN _) (Nat.add_assoc _ _ _))⟩)) | ((with_reducible refine gate_builtin (b := .append) (xs := #[.tmp 84, .tmp 87]) rfl ?_); at_builtin; refine Kd.R_append (Kd.int .u8) (w0 := w) w.heap.size rfl (.tmp 84) (.tmp 87) 70 5 (.int .u8 0) 1 rfl Tryz.underlying70 info5 rfl (by decide) (by omega) u6 x6_1 ((wrap64 ((wrap64 (t124 * 16)) + t125)) % 256) [.int .u8 ((wrap64 ((wrap64 (t124 * 16)) + t125)) % 256)] (fun _ => True) (fun _ => False) rfl rfl ?aP (fun _ hk => hk.elim) ?aF ?aO ?aB ?aS ?aL ?_; (case aP => exact rfl); (case aB => exact (by repeat (first | (with_reducible first | exact HB.out | apply below_alloc | apply pw_below_drewN | apply below_drew1) | exact HB.out))); (case aF => exact (fun _ _ => trivial)); (case aO => exact (by (with_reducible repeat (first | apply Kd.R_alloc | apply Kd.R_drewN | apply Kd.R_drew)); exact HO_6.out)); (case aS => exact (below_size (by repeat (first | (with_reducible first | exact HB.out | apply below_alloc | apply pw_below_drewN | apply below_drew1) | exact HB.out)))); (case aL => have := LMc38.out; omega); intro v130 w39 ho hb hg hat; rw [← Ny129.out] at ho; have n0_ := Aside0.mk (hb); have n1_ := Aside0.mk (ho); clear HB; clear HO_6; have HB := n0_; have HO131 := n1_; clear n0_ n1_; clear ho hb hg hat))
                                repeat (go_quiet (first | (go_at_call 64; (with_reducible refine (spec_hex.calls kj8 (bt a0 (ji23)) t124 _ A27.out).mono ?_); rintro e w' ⟨rfl, ⟨nd, rfl⟩⟩; (try first | exact ⟨rfl, _, World.drewN_drewN _ _ _⟩ | exact ⟨rfl, _, Eq.trans (World.drewN_drewN _ _ _) (congrArg (World.drewN _) (Nat.add_assoc _ _ _))⟩); have p31 : 0 ≤ ((ji28) : Int) := of_decide_eq_true (by first | (with_reducible assumption) | assumption); have q31 : (ji28) < (a0.size : Int) := of_decide_eq_true (by first | (with_reducible assumption) | assumption); have hx31 := bt_at a0 (ji28); replace p31 := eq_true p31; replace q31 := eq_true q31) | (go_at_call 64; (with_reducible refine (spec_hex.calls kj8 (bt a0 (ji28)) t125 _ A32.out).mono ?_); rintro e w' ⟨rfl, ⟨nd, rfl⟩⟩; (try first | exact ⟨rfl, _, World.drewN_drewN _ _ _⟩ | exact ⟨rfl, _, Eq.trans (World.drewN_drewN _ _ _) (congrArg (World.drewN _) (Nat.add_assoc _ _ _))⟩)) | ((with_reducible refine gate_builtin (b := .append) (xs := #[.tmp 84, .tmp 87]) rfl ?_); at_builtin; refine Kd.R_append (Kd.int .u8) (w0 := w) w.heap.size rfl (.tmp 84) (.tmp 87) 70 5 (.int .u8 0) 1 rfl Tryz.underlying70 info5 rfl (by decide) (by omega) u6 x6_1 ((wrap64 ((wrap64 (t124 * 16)) + t125)) % 256) [.int .u8 ((wrap64 ((wrap64 (t124 * 16)) + t125)) % 256)] (fun _ => True) (fun _ => False) rfl rfl ?aP (fun _ hk => hk.elim) ?aF ?aO ?aB ?aS ?aL ?_; (case aP => exact rfl); (case aB => exact (by repeat (first | (with_reducible first | exact HB.out | apply below_alloc | apply pw_below_drewN | apply below_drew1) | exact HB.out))); (case aF => exact (fun _ _ => trivial)); (case aO => exact (by (with_reducible repeat (first | apply Kd.R_alloc | apply Kd.R_drewN | apply Kd.R_drew)); exact HO_6.out)); (case aS => exact (below_size (by repeat (first | (with_reducible first | exact HB.out | apply below_alloc | apply pw_below_drewN | apply below_drew1) | exact HB.out)))); (case aL => have := LMc38.out; omega); intro v130 w39 ho hb hg hat; rw [← Ny129.out] at ho; have n0_ := Aside0.mk (hb); have n1_ := Aside0.mk (ho); clear HB; clear HO_6; have HB := n0_; have HO131 := n1_; clear n0_ n1_; clear ho hb hg hat)); try go_wp2_with (first | (go_at_call 64; (with_reducible refine (spec_hex.calls kj8 (bt a0 (ji23)) t124 _ A27.out).mono ?_); rintro e w' ⟨rfl, ⟨nd, rfl⟩⟩; (try first | exact ⟨rfl, _, World.drewN_drewN _ _ _⟩ | exact ⟨rfl, _, Eq.trans (World.drewN_drewN _ _ _) (congrArg (World.drewN _) (Nat.add_assoc _ _ _))⟩); have p31 : 0 ≤ ((ji28) : Int) := of_decide_eq_true (by first | (with_reducible assumption) | assumption); have q31 : (ji28) < (a0.size : Int) := of_decide_eq_true (by first | (with_reducible assumption) | assumption); have hx31 := bt_at a0 (ji28); replace p31 := eq_true p31; replace q31 := eq_true q31) | (go_at_call 64; (with_reducible refine (spec_hex.calls kj8 (bt a0 (ji28)) t125 _ A32.out).mono ?_); rintro e w' ⟨rfl, ⟨nd, rfl⟩⟩; (try first | exact ⟨rfl, _, World.drewN_drewN _ _ _⟩ | exact ⟨rfl, _, Eq.trans (World.drewN_drewN _ _ _) (congrArg (World.drewN _) (Nat.add_assoc _ _ _))⟩)) | ((with_reducible refine gate_builtin (b := .append) (xs := #[.tmp 84, .tmp 87]) rfl ?_); at_builtin; refine Kd.R_append (Kd.int .u8) (w0 := w) w.heap.size rfl (.tmp 84) (.tmp 87) 70 5 (.int .u8 0) 1 rfl Tryz.underlying70 info5 rfl (by decide) (by omega) u6 x6_1 ((wrap64 ((wrap64 (t124 * 16)) + t125)) % 256) [.int .u8 ((wrap64 ((wrap64 (t124 * 16)) + t125)) % 256)] (fun _ => True) (fun _ => False) rfl rfl ?aP (fun _ hk => hk.elim) ?aF ?aO ?aB ?aS ?aL ?_; (case aP => exact rfl); (case aB => exact (by repeat (first | (with_reducible first | exact HB.out | apply below_alloc | apply pw_below_drewN | apply below_drew1) | exact HB.out))); (case aF => exact (fun _ _ => trivial)); (case aO => exact (by (with_reducible repeat (first | apply Kd.R_alloc | apply Kd.R_drewN | apply Kd.R_drew)); exact HO_6.out)); (case aS => exact (below_size (by repeat (first | (with_reducible first | exact HB.out | apply below_alloc | apply pw_below_drewN | apply below_drew1) | exact HB.out)))); (case aL => have := LMc38.out; omega); intro v130 w39 ho hb hg hat; rw [← Ny129.out] at ho; have n0_ := Aside0.mk (hb); have n1_ := Aside0.mk (ho); clear HB; clear HO_6; have HB := n0_; have HO131 := n1_; clear n0_ n1_; clear ho hb hg hat)))
                                go_roundg kj8
                                case measure => have := HK1.out; have := HJ8.out; omega
                                case rel => exact ⟨(y129), (wrap64 ((ji28) + 1)), (by first | rfl | (simp; done) | (simp only [← hji28] <;> (first | rfl | simp)) | (simp [*]; done)), H', ⟨by have := HK1.out; have := HJ8.out; omega⟩, ⟨by (with_reducible repeat (first | apply Kd.R_alloc | apply Kd.R_drewN | apply Kd.R_drew)); exact HO131.out⟩, ⟨by repeat (first | (with_reducible first | exact HB.out | apply below_alloc | apply pw_below_drewN | apply below_drew1) | exact HB.out)⟩⟩
                              · rw [if_neg c38] at H
                                exact absurd H (by simp)
                          · rw [if_neg c33] at H
                            have c33b0 : (a1 == 2) = false := beq_eq_false_iff_ne.mpr c33
                            have c33b1 : (a1 != 2) = true := bne_iff_ne.mpr c33
                            by_cases c40 : x6_1.length < 140737488355328
                            · rw [if_pos c40] at H
                              have LMc40 := Aside0.mk c40
                              clear c40
                              obtain ⟨y132, hy132⟩ : ∃ y_ : List Int, y_ = (x6_1 ++ [(wrap64 ((wrap64 (t124 * 16)) + t125)) % 256]) := ⟨_, rfl⟩
                              replace H : (spec_Unescape.l0 kj8 a0 a1 y132 (wrap64 ((ji28) + 1))) = some (r1, r2) := by first | (rw [hy132]; with_reducible exact H) | (have H2_ := (Option.bind_some _ _).symm.trans H; rw [hy132]; with_reducible exact H2_) | (have H2_ := (Option.bind_some _ _).symm.trans H; with_reducible exact H2_) | with_reducible exact H | (rw [hy132]; exact H) | exact H
                              have Ny132 := Aside0.mk hy132
                              clear hy132
                              have H' := Aside0.mk H
                              clear H
                              have p26 : 0 ≤ ((ji23) : Int) := of_decide_eq_true (by first | (with_reducible assumption) | assumption)
                              have q26 : (ji23) < (a0.size : Int) := of_decide_eq_true (by first | (with_reducible assumption) | assumption)
                              have hx26 := bt_at a0 (ji23)
                              replace p26 := eq_true p26
                              replace q26 := eq_true q26
                              go_wp2_with (first | (go_at_call 64; (with_reducible refine (spec_hex.calls kj8 (bt a0 (ji23)) t124 _ A27.out).mono ?_); rintro e w' ⟨rfl, ⟨nd, rfl⟩⟩; (try first | exact ⟨rfl, _, World.drewN_drewN _ _ _⟩ | exact ⟨rfl, _, Eq.trans (World.drewN_drewN _ _ _) (congrArg (World.drewN _) (Nat.add_assoc _ _ _))⟩); have p31 : 0 ≤ ((ji28) : Int) := of_decide_eq_true (by first | (with_reducible assumption) | assumption); have q31 : (ji28) < (a0.size : Int) := of_decide_eq_true (by first | (with_reducible assumption) | assumption); have hx31 := bt_at a0 (ji28); replace p31 := eq_true p31; replace q31 := eq_true q31) | (go_at_call 64; (with_reducible refine (spec_hex.calls kj8 (bt a0 (ji28)) t125 _ A32.out).mono ?_); rintro e w' ⟨rfl, ⟨nd, rfl⟩⟩; (try first | exact ⟨rfl, _, World.drewN_drewN _ _ _⟩ | exact ⟨rfl, _, Eq.trans (World.drewN_drewN _ _ _) (congrArg (World.drewN _) (Nat.add_assoc _ _ _))⟩)) | ((with_reducible refine gate_builtin (b := .append) (xs := #[.tmp 84, .tmp 87]) rfl ?_); at_builtin; refine Kd.R_append (Kd.int .u8) (w0 := w) w.heap.size rfl (.tmp 84) (.tmp 87) 70 5 (.int .u8 0) 1 rfl Tryz.underlying70 info5 rfl (by decide) (by omega) u6 x6_1 ((wrap64 ((wrap64 (t124 * 16)) + t125)) % 256) [.int .u8 ((wrap64 ((wrap64 (t124 * 16)) + t125)) % 256)] (fun _ => True) (fun _ => False) rfl rfl ?aP (fun _ hk => hk.elim) ?aF ?aO ?aB ?aS ?aL ?_; (case aP => exact rfl); (case aB => exact (by repeat (first | (with_reducible first | exact HB.out | apply below_alloc | apply pw_below_drewN | apply below_drew1) | exact HB.out))); (case aF => exact (fun _ _ => trivial)); (case aO => exact (by (with_reducible repeat (first | apply Kd.R_alloc | apply Kd.R_drewN | apply Kd.R_drew)); exact HO_6.out)); (case aS => exact (below_size (by repeat (first | (with_reducible first | exact HB.out | apply below_alloc | apply pw_below_drewN | apply below_drew1) | exact HB.out)))); (case aL => have := LMc40.out; omega); intro v133 w41 ho hb hg hat; rw [← Ny132.out] at ho; have n0_ := Aside0.mk (hb); have n1_ := Aside0.mk (ho); clear HB; clear HO_6; have HB := n0_; have HO134 := n1_; clear n0_ n1_; clear ho hb hg hat))
                              repeat (go_quiet (first | (go_at_call 64; (with_reducible refine (spec_hex.calls kj8 (bt a0 (ji23)) t124 _ A27.out).mono ?_); rintro e w' ⟨rfl, ⟨nd, rfl⟩⟩; (try first | exact ⟨rfl, _, World.drewN_drewN _ _ _⟩ | exact ⟨rfl, _, Eq.trans (World.drewN_drewN _ _ _) (congrArg (World.drewN _) (Nat.add_assoc _ _ _))⟩); have p31 : 0 ≤ ((ji28) : Int) := of_decide_eq_true (by first | (with_reducible assumption) | assumption); have q31 : (ji28) < (a0.size : Int) := of_decide_eq_true (by first | (with_reducible assumption) | assumption); have hx31 := bt_at a0 (ji28); replace p31 := eq_true p31; replace q31 := eq_true q31) | (go_at_call 64; (with_reducible refine (spec_hex.calls kj8 (bt a0 (ji28)) t125 _ A32.out).mono ?_); rintro e w' ⟨rfl, ⟨nd, rfl⟩⟩; (try first | exact ⟨rfl, _, World.drewN_drewN _ _ _⟩ | exact ⟨rfl, _, Eq.trans (World.drewN_drewN _ _ _) (congrArg (World.drewN _) (Nat.add_assoc _ _ _))⟩)) | ((with_reducible refine gate_builtin (b := .append) (xs := #[.tmp 84, .tmp 87]) rfl ?_); at_builtin; refine Kd.R_append (Kd.int .u8) (w0 := w) w.heap.size rfl (.tmp 84) (.tmp 87) 70 5 (.int .u8 0) 1 rfl Tryz.underlying70 info5 rfl (by decide) (by omega) u6 x6_1 ((wrap64 ((wrap64 (t124 * 16)) + t125)) % 256) [.int .u8 ((wrap64 ((wrap64 (t124 * 16)) + t125)) % 256)] (fun _ => True) (fun _ => False) rfl rfl ?aP (fun _ hk => hk.elim) ?aF ?aO ?aB ?aS ?aL ?_; (case aP => exact rfl); (case aB => exact (by repeat (first | (with_reducible first | exact HB.out | apply below_alloc | apply pw_below_drewN | apply below_drew1) | exact HB.out))); (case aF => exact (fun _ _ => trivial)); (case aO => exact (by (with_reducible repeat (first | apply Kd.R_alloc | apply Kd.R_drewN | apply Kd.R_drew)); exact HO_6.out)); (case aS => exact (below_size (by repeat (first | (with_reducible first | exact HB.out | apply below_alloc | apply pw_below_drewN | apply below_drew1) | exact HB.out)))); (case aL => have := LMc40.out; omega); intro v133 w41 ho hb hg hat; rw [← Ny132.out] at ho; have n0_ := Aside0.mk (hb); have n1_ := Aside0.mk (ho); clear HB; clear HO_6; have HB := n0_; have HO134 := n1_; clear n0_ n1_; clear ho hb hg hat)); try go_wp2_with (first | (go_at_call 64; (with_reducible refine (spec_hex.calls kj8 (bt a0 (ji23)) t124 _ A27.out).mono ?_); rintro e w' ⟨rfl, ⟨nd, rfl⟩⟩; (try first | exact ⟨rfl, _, World.drewN_drewN _ _ _⟩ | exact ⟨rfl, _, Eq.trans (World.drewN_drewN _ _ _) (congrArg (World.drewN _) (Nat.add_assoc _ _ _))⟩); have p31 : 0 ≤ ((ji28) : Int) := of_decide_eq_true (by first | (with_reducible assumption) | assumption); have q31 : (ji28) < (a0.size : Int) := of_decide_eq_true (by first | (with_reducible assumption) | assumption); have hx31 := bt_at a0 (ji28); replace p31 := eq_true p31; replace q31 := eq_true q31) | (go_at_call 64; (with_reducible refine (spec_hex.calls kj8 (bt a0 (ji28)) t125 _ A32.out).mono ?_); rintro e w' ⟨rfl, ⟨nd, rfl⟩⟩; (try first | exact ⟨rfl, _, World.drewN_drewN _ _ _⟩ | exact ⟨rfl, _, Eq.trans (World.drewN_drewN _ _ _) (congrArg (World.drewN _) (Nat.add_assoc _ _ _))⟩)) | ((with_reducible refine gate_builtin (b := .append) (xs := #[.tmp 84, .tmp 87]) rfl ?_); at_builtin; refine Kd.R_append (Kd.int .u8) (w0 := w) w.heap.size rfl (.tmp 84) (.tmp 87) 70 5 (.int .u8 0) 1 rfl Tryz.underlying70 info5 rfl (by decide) (by omega) u6 x6_1 ((wrap64 ((wrap64 (t124 * 16)) + t125)) % 256) [.int .u8 ((wrap64 ((wrap64 (t124 * 16)) + t125)) % 256)] (fun _ => True) (fun _ => False) rfl rfl ?aP (fun _ hk => hk.elim) ?aF ?aO ?aB ?aS ?aL ?_; (case aP => exact rfl); (case aB => exact (by repeat (first | (with_reducible first | exact HB.out | apply below_alloc | apply pw_below_drewN | apply below_drew1) | exact HB.out))); (case aF => exact (fun _ _ => trivial)); (case aO => exact (by (with_reducible repeat (first | apply Kd.R_alloc | apply Kd.R_drewN | apply Kd.R_drew)); exact HO_6.out)); (case aS => exact (below_size (by repeat (first | (with_reducible first | exact HB.out | apply below_alloc | apply pw_below_drewN | apply below_drew1) | exact HB.out)))); (case aL => have := LMc40.out; omega); intro v133 w41 ho hb hg hat; rw [← Ny132.out] at ho; have n0_ := Aside0.mk (hb); have n1_ := Aside0.mk (ho); clear HB; clear HO_6; have HB := n0_; have HO134 := n1_; clear n0_ n1_; clear ho hb hg hat)))
                              go_roundg kj8
                              case measure => have := HK1.out; have := HJ8.out; omega
                              case rel => exact ⟨(y132), (wrap64 ((ji28) + 1)), (by first | rfl | (simp; done) | (simp only [← hji28] <;> (first | rfl | simp)) | (simp [*]; done)), H', ⟨by have := HK1.out; have := HJ8.out; omega⟩, ⟨by (with_reducible repeat (first | apply Kd.R_alloc | apply Kd.R_drewN | apply Kd.R_drew)); exact HO134.out⟩, ⟨by repeat (first | (with_reducible first | exact HB.out | apply below_alloc | apply pw_below_drewN | apply below_drew1) | exact HB.out)⟩⟩
                            · rw [if_neg c40] at H
                              exact absurd H (by simp)
                        · rw [if_neg c30] at H
                          exact absurd H (by simp)
                      · rw [if_neg c29] at H
                        exact absurd H (by simp)
                    · rw [if_neg c25] at H
                      exact absurd H (by simp)
                  · rw [if_neg c24] at H
                    exact absurd H (by simp)
          · rw [if_neg c8] at H
            have c8b0 : ((bt a0 x7_1) == 37) = false := beq_eq_false_iff_ne.mpr c8
            have c8b1 : ((bt a0 x7_1) != 37) = true := bne_iff_ne.mpr c8
            by_cases c42 : a1 = 2
            · rw [if_pos c42] at H
              have c42b0 : (a1 == 2) = true := beq_iff_eq.mpr c42
              have c42b1 : (a1 != 2) = false := bne_eq_false_iff_eq.mpr c42
              clear c42
              by_cases c44 : (bt a0 x7_1) < 128
              · rw [if_pos c44] at H
                have c44b0 : decide ((bt a0 x7_1) < 128) = true := decide_eq_true c44
                clear c44
                replace H := Option.bind_eq_some_iff.mp H
                obtain ⟨t112, A460, H⟩ := H
                replace H : (if t112 = true then (if x6_1.length < 140737488355328 then (spec_Unescape.l0 k1 a0 a1 (x6_1 ++ [bt a0 x7_1]) (wrap64 (x7_1 + 1))) else (none)) else (some ((⟨#[]⟩ : ByteArray), false))) = some (r1, r2) := H
                have A46 := Aside0.mk A460
                clear A460
                by_cases c47 : t112 = true
                · subst c47
                  have H1 : (if x6_1.length < 140737488355328 then (spec_Unescape.l0 k1 a0 a1 (x6_1 ++ [bt a0 x7_1]) (wrap64 (x7_1 + 1))) else (none)) = some (r1, r2) := by rw [if_pos rfl] at H; exact H
                  clear H
                  have H := H1
                  clear H1
                  by_cases c49 : x6_1.length < 140737488355328
                  · rw [if_pos c49] at H
                    have LMc49 := Aside0.mk c49
                    clear c49
                    obtain ⟨y113, hy113⟩ : ∃ y_ : List Int, y_ = (x6_1 ++ [bt a0 x7_1]) := ⟨_, rfl⟩
                    replace H : (spec_Unescape.l0 k1 a0 a1 y113 (wrap64 (x7_1 + 1))) = some (r1, r2) := by first | (rw [hy113]; with_reducible exact H) | (have H2_ := (Option.bind_some _ _).symm.trans H; rw [hy113]; with_reducible exact H2_) | (have H2_ := (Option.bind_some _ _).symm.trans H; with_reducible exact H2_) | with_reducible exact H | (rw [hy113]; exact H) | exact H
                    have Ny113 := Aside0.mk hy113
                    clear hy113
                    have H' := Aside0.mk H
                    clear H
                    have p7 : 0 ≤ (x7_1 : Int) := of_decide_eq_true (by first | (with_reducible assumption) | assumption)
                    have q7 : x7_1 < (a0.size : Int) := of_decide_eq_true (by first | (with_reducible assumption) | assumption)
                    have hx7 := bt_at a0 x7_1
                    replace p7 := eq_true p7
                    replace q7 := eq_true q7
                    have p43 : 0 ≤ (x7_1 : Int) := of_decide_eq_true (by first | (with_reducible assumption) | assumption)
                    have q43 : x7_1 < (a0.size : Int) := of_decide_eq_true (by first | (with_reducible assumption) | assumption)
                    have hx43 := bt_at a0 x7_1
                    replace p43 := eq_true p43
                    replace q43 := eq_true q43
                    have p45 : 0 ≤ (x7_1 : Int) := of_decide_eq_true (by first | (with_reducible assumption) | assumption)
                    have q45 : x7_1 < (a0.size : Int) := of_decide_eq_true (by first | (with_reducible assumption) | assumption)
                    have hx45 := bt_at a0 x7_1
                    replace p45 := eq_true p45
                    replace q45 := eq_true q45
                    go_wp2_with (first | (go_at_call 63; (with_reducible refine (spec_free.calls k1 (bt a0 x7_1) 2 true _ A46.out).mono ?_); rintro e w' ⟨rfl, ⟨nd, rfl⟩⟩; (try first | exact ⟨rfl, _, World.drewN_drewN _ _ _⟩ | exact ⟨rfl, _, Eq.trans (World.drewN_drewN _ _ _) (congrArg (World.drewN _) (Nat.add_assoc _ _ _))⟩); have p48 : 0 ≤ (x7_1 : Int) := of_decide_eq_true (by first | (with_reducible assumption) | assumption); have q48 : x7_1 < (a0.size : Int) := of_decide_eq_true (by first | (with_reducible assumption) | assumption); have hx48 := bt_at a0 x7_1; replace p48 := eq_true p48; replace q48 := eq_true q48) | ((with_reducible refine gate_builtin (b := .append) (xs := #[.tmp 35, .tmp 39]) rfl ?_); at_builtin; refine Kd.R_append (Kd.int .u8) (w0 := w) w.heap.size rfl (.tmp 35) (.tmp 39) 70 5 (.int .u8 0) 1 rfl Tryz.underlying70 info5 rfl (by decide) (by omega) u6 x6_1 (bt a0 x7_1) [.int .u8 (bt a0 x7_1)] (fun _ => True) (fun _ => False) rfl rfl ?aP (fun _ hk => hk.elim) ?aF ?aO ?aB ?aS ?aL ?_; (case aP => exact rfl); (case aB => exact (by repeat (first | (with_reducible first | exact HB.out | apply below_alloc | apply pw_below_drewN | apply below_drew1) | exact HB.out))); (case aF => exact (fun _ _ => trivial)); (case aO => exact (by (with_reducible repeat (first | apply Kd.R_alloc | apply Kd.R_drewN | apply Kd.R_drew)); exact HO_6.out)); (case aS => exact (below_size (by repeat (first | (with_reducible first | exact HB.out | apply below_alloc | apply pw_below_drewN | apply below_drew1) | exact HB.out)))); (case aL => have := LMc49.out; omega); intro v114 w50 ho hb hg hat; rw [← Ny113.out] at ho; have n0_ := Aside0.mk (hb); have n1_ := Aside0.mk (ho); clear HB; clear HO_6; have HB := n0_; have HO115 := n1_; clear n0_ n1_; clear ho hb hg hat))
                    repeat (go_quiet (first | (go_at_call 63; (with_reducible refine (spec_free.calls k1 (bt a0 x7_1) 2 true _ A46.out).mono ?_); rintro e w' ⟨rfl, ⟨nd, rfl⟩⟩; (try first | exact ⟨rfl, _, World.drewN_drewN _ _ _⟩ | exact ⟨rfl, _, Eq.trans (World.drewN_drewN _ _ _) (congrArg (World.drewN _) (Nat.add_assoc _ _ _))⟩); have p48 : 0 ≤ (x7_1 : Int) := of_decide_eq_true (by first | (with_reducible assumption) | assumption); have q48 : x7_1 < (a0.size : Int) := of_decide_eq_true (by first | (with_reducible assumption) | assumption); have hx48 := bt_at a0 x7_1; replace p48 := eq_true p48; replace q48 := eq_true q48) | ((with_reducible refine gate_builtin (b := .append) (xs := #[.tmp 35, .tmp 39]) rfl ?_); at_builtin; refine Kd.R_append (Kd.int .u8) (w0 := w) w.heap.size rfl (.tmp 35) (.tmp 39) 70 5 (.int .u8 0) 1 rfl Tryz.underlying70 info5 rfl (by decide) (by omega) u6 x6_1 (bt a0 x7_1) [.int .u8 (bt a0 x7_1)] (fun _ => True) (fun _ => False) rfl rfl ?aP (fun _ hk => hk.elim) ?aF ?aO ?aB ?aS ?aL ?_; (case aP => exact rfl); (case aB => exact (by repeat (first | (with_reducible first | exact HB.out | apply below_alloc | apply pw_below_drewN | apply below_drew1) | exact HB.out))); (case aF => exact (fun _ _ => trivial)); (case aO => exact (by (with_reducible repeat (first | apply Kd.R_alloc | apply Kd.R_drewN | apply Kd.R_drew)); exact HO_6.out)); (case aS => exact (below_size (by repeat (first | (with_reducible first | exact HB.out | apply below_alloc | apply pw_below_drewN | apply below_drew1) | exact HB.out)))); (case aL => have := LMc49.out; omega); intro v114 w50 ho hb hg hat; rw [← Ny113.out] at ho; have n0_ := Aside0.mk (hb); have n1_ := Aside0.mk (ho); clear HB; clear HO_6; have HB := n0_; have HO115 := n1_; clear n0_ n1_; clear ho hb hg hat)); try go_wp2_with (first | (go_at_call 63; (with_reducible refine (spec_free.calls k1 (bt a0 x7_1) 2 true _ A46.out).mono ?_); rintro e w' ⟨rfl, ⟨nd, rfl⟩⟩; (try first | exact ⟨rfl, _, World.drewN_drewN _ _ _⟩ | exact ⟨rfl, _, Eq.trans (World.drewN_drewN _ _ _) (congrArg (World.drewN _) (Nat.add_assoc _ _ _))⟩); have p48 : 0 ≤ (x7_1 : Int) := of_decide_eq_true (by first | (with_reducible assumption) | assumption); have q48 : x7_1 < (a0.size : Int) := of_decide_eq_true (by first | (with_reducible assumption) | assumption); have hx48 := bt_at a0 x7_1; replace p48 := eq_true p48; replace q48 := eq_true q48) | ((with_reducible refine gate_builtin (b := .append) (xs := #[.tmp 35, .tmp 39]) rfl ?_); at_builtin; refine Kd.R_append (Kd.int .u8) (w0 := w) w.heap.size rfl (.tmp 35) (.tmp 39) 70 5 (.int .u8 0) 1 rfl Tryz.underlying70 info5 rfl (by decide) (by omega) u6 x6_1 (bt a0 x7_1) [.int .u8 (bt a0 x7_1)] (fun _ => True) (fun _ => False) rfl rfl ?aP (fun _ hk => hk.elim) ?aF ?aO ?aB ?aS ?aL ?_; (case aP => exact rfl); (case aB => exact (by repeat (first | (with_reducible first | exact HB.out | apply below_alloc | apply pw_below_drewN | apply below_drew1) | exact HB.out))); (case aF => exact (fun _ _ => trivial)); (case aO => exact (by (with_reducible repeat (first | apply Kd.R_alloc | apply Kd.R_drewN | apply Kd.R_drew)); exact HO_6.out)); (case aS => exact (below_size (by repeat (first | (with_reducible first | exact HB.out | apply below_alloc | apply pw_below_drewN | apply below_drew1) | exact HB.out)))); (case aL => have := LMc49.out; omega); intro v114 w50 ho hb hg hat; rw [← Ny113.out] at ho; have n0_ := Aside0.mk (hb); have n1_ := Aside0.mk (ho); clear HB; clear HO_6; have HB := n0_; have HO115 := n1_; clear n0_ n1_; clear ho hb hg hat)))
                    go_roundg k1
                    case measure => have := HK1.out; omega
                    case rel => exact ⟨(y113), (wrap64 (x7_1 + 1)), (by first | rfl | (simp; done) | (simp [*]; done)), H', ⟨by have := HK1.out; omega⟩, ⟨by (with_reducible repeat (first | apply Kd.R_alloc | apply Kd.R_drewN | apply Kd.R_drew)); exact HO115.out⟩, ⟨by repeat (first | (with_reducible first | exact HB.out | apply below_alloc | apply pw_below_drewN | apply below_drew1) | exact HB.out)⟩⟩
                  · rw [if_neg c49] at H
                    exact absurd H (by simp)
                · replace c47 := Bool.eq_false_iff.mpr c47
                  subst c47
                  have H1 : (some ((⟨#[]⟩ : ByteArray), false)) = some (r1, r2) := by rw [if_neg (show ¬ (false = true) by decide)] at H; exact H
                  clear H
                  have H := H1
                  clear H1
                  simp only [Option.some.injEq, Prod.mk.injEq] at H
                  obtain ⟨rfl, rfl⟩ := H
                  have p7 : 0 ≤ (x7_1 : Int) := of_decide_eq_true (by first | (with_reducible assumption) | assumption)
                  have q7 : x7_1 < (a0.size : Int) := of_decide_eq_true (by first | (with_reducible assumption) | assumption)
                  have hx7 := bt_at a0 x7_1
                  replace p7 := eq_true p7
                  replace q7 := eq_true q7
                  have p43 : 0 ≤ (x7_1 : Int) := of_decide_eq_true (by first | (with_reducible assumption) | assumption)
                  have q43 : x7_1 < (a0.size : Int) := of_decide_eq_true (by first | (with_reducible assumption) | assumption)
                  have hx43 := bt_at a0 x7_1
                  replace p43 := eq_true p43
                  replace q43 := eq_true q43
                  have p45 : 0 ≤ (x7_1 : Int) := of_decide_eq_true (by first | (with_reducible assumption) | assumption)
                  have q45 : x7_1 < (a0.size : Int) := of_decide_eq_true (by first | (with_reducible assumption) | assumption)
                  have hx45 := bt_at a0 x7_1
                  replace p45 := eq_true p45
                  replace q45 := eq_true q45
                  go_wp2_with (first | (go_at_call 63; (with_reducible refine (spec_free.calls k1 (bt a0 x7_1) 2 false _ A46.out).mono ?_); rintro e w' ⟨rfl, ⟨nd, rfl⟩⟩; (try first | exact ⟨rfl, _, World.drewN_drewN _ _ _⟩ | exact ⟨rfl, _, Eq.trans (World.drewN_drewN _ _ _) (congrArg (World.drewN _) (Nat.add_assoc _ _ _))⟩)))
                  repeat (go_quiet (first | (go_at_call 63; (with_reducible refine (spec_free.calls k1 (bt a0 x7_1) 2 false _ A46.out).mono ?_); rintro e w' ⟨rfl, ⟨nd, rfl⟩⟩; (try first | exact ⟨rfl, _, World.drewN_drewN _ _ _⟩ | exact ⟨rfl, _, Eq.trans (World.drewN_drewN _ _ _) (congrArg (World.drewN _) (Nat.add_assoc _ _ _))⟩))); try go_wp2_with (first | (go_at_call 63; (with_reducible refine (spec_free.calls k1 (bt a0 x7_1) 2 false _ A46.out).mono ?_); rintro e w' ⟨rfl, ⟨nd, rfl⟩⟩; (try first | exact ⟨rfl, _, World.drewN_drewN _ _ _⟩ | exact ⟨rfl, _, Eq.trans (World.drewN_drewN _ _ _) (congrArg (World.drewN _) (Nat.add_assoc _ _ _))⟩))))
                  go_ret2
                  exact ⟨by first | rfl | (simp [errW_none, errW_some] <;> rfl) | (simp [*, errW_none, errW_some] <;> rfl), by repeat (first | (with_reducible first | exact HB.out | apply below_alloc | apply pw_below_drewN | apply below_drew1) | exact HB.out)⟩
              · rw [if_neg c44] at H
                have c44b0 : decide ((bt a0 x7_1) < 128) = false := decide_eq_false c44
                clear c44
                by_cases c52 : x6_1.length < 140737488355328
                · rw [if_pos c52] at H
                  have LMc52 := Aside0.mk c52
                  clear c52
                  obtain ⟨y116, hy116⟩ : ∃ y_ : List Int, y_ = (x6_1 ++ [bt a0 x7_1]) := ⟨_, rfl⟩
                  replace H : (spec_Unescape.l0 k1 a0 a1 y116 (wrap64 (x7_1 + 1))) = some (r1, r2) := by first | (rw [hy116]; with_reducible exact H) | (have H2_ := (Option.bind_some _ _).symm.trans H; rw [hy116]; with_reducible exact H2_) | (have H2_ := (Option.bind_some _ _).symm.trans H; with_reducible exact H2_) | with_reducible exact H | (rw [hy116]; exact H) | exact H
                  have Ny116 := Aside0.mk hy116
                  clear hy116
                  have H' := Aside0.mk H
                  clear H
                  have p7 : 0 ≤ (x7_1 : Int) := of_decide_eq_true (by first | (with_reducible assumption) | assumption)
                  have q7 : x7_1 < (a0.size : Int) := of_decide_eq_true (by first | (with_reducible assumption) | assumption)
                  have hx7 := bt_at a0 x7_1
                  replace p7 := eq_true p7
                  replace q7 := eq_true q7
                  have p43 : 0 ≤ (x7_1 : Int) := of_decide_eq_true (by first | (with_reducible assumption) | assumption)
                  have q43 : x7_1 < (a0.size : Int) := of_decide_eq_true (by first | (with_reducible assumption) | assumption)
                  have hx43 := bt_at a0 x7_1
                  replace p43 := eq_true p43
                  replace q43 := eq_true q43
                  have p51 : 0 ≤ (x7_1 : Int) := of_decide_eq_true (by first | (with_reducible assumption) | assumption)
                  have q51 : x7_1 < (a0.size : Int) := of_decide_eq_true (by first | (with_reducible assumption) | assumption)
                  have hx51 := bt_at a0 x7_1
                  replace p51 := eq_true p51
                  replace q51 := eq_true q51
                  go_wp2_with (first | ((with_reducible refine gate_builtin (b := .append) (xs := #[.tmp 35, .tmp 39]) rfl ?_); at_builtin; refine Kd.R_append (Kd.int .u8) (w0 := w) w.heap.size rfl (.tmp 35) (.tmp 39) 70 5 (.int .u8 0) 1 rfl Tryz.underlying70 info5 rfl (by decide) (by omega) u6 x6_1 (bt a0 x7_1) [.int .u8 (bt a0 x7_1)] (fun _ => True) (fun _ => False) rfl rfl ?aP (fun _ hk => hk.elim) ?aF ?aO ?aB ?aS ?aL ?_; (case aP => exact rfl); (case aB => exact (by repeat (first | (with_reducible first | exact HB.out | apply below_alloc | apply pw_below_drewN | apply below_drew1) | exact HB.out))); (case aF => exact (fun _ _ => trivial)); (case aO => exact (by (with_reducible repeat (first | apply Kd.R_alloc | apply Kd.R_drewN | apply Kd.R_drew)); exact HO_6.out)); (case aS => exact (below_size (by repeat (first | (with_reducible first | exact HB.out | apply below_alloc | apply pw_below_drewN | apply below_drew1) | exact HB.out)))); (case aL => have := LMc52.out; omega); intro v117 w53 ho hb hg hat; rw [← Ny116.out] at ho; have n0_ := Aside0.mk (hb); have n1_ := Aside0.mk (ho); clear HB; clear HO_6; have HB := n0_; have HO118 := n1_; clear n0_ n1_; clear ho hb hg hat))
                  repeat (go_quiet (first | ((with_reducible refine gate_builtin (b := .append) (xs := #[.tmp 35, .tmp 39]) rfl ?_); at_builtin; refine Kd.R_append (Kd.int .u8) (w0 := w) w.heap.size rfl (.tmp 35) (.tmp 39) 70 5 (.int .u8 0) 1 rfl Tryz.underlying70 info5 rfl (by decide) (by omega) u6 x6_1 (bt a0 x7_1) [.int .u8 (bt a0 x7_1)] (fun _ => True) (fun _ => False) rfl rfl ?aP (fun _ hk => hk.elim) ?aF ?aO ?aB ?aS ?aL ?_; (case aP => exact rfl); (case aB => exact (by repeat (first | (with_reducible first | exact HB.out | apply below_alloc | apply pw_below_drewN | apply below_drew1) | exact HB.out))); (case aF => exact (fun _ _ => trivial)); (case aO => exact (by (with_reducible repeat (first | apply Kd.R_alloc | apply Kd.R_drewN | apply Kd.R_drew)); exact HO_6.out)); (case aS => exact (below_size (by repeat (first | (with_reducible first | exact HB.out | apply below_alloc | apply pw_below_drewN | apply below_drew1) | exact HB.out)))); (case aL => have := LMc52.out; omega); intro v117 w53 ho hb hg hat; rw [← Ny116.out] at ho; have n0_ := Aside0.mk (hb); have n1_ := Aside0.mk (ho); clear HB; clear HO_6; have HB := n0_; have HO118 := n1_; clear n0_ n1_; clear ho hb hg hat)); try go_wp2_with (first | ((with_reducible refine gate_builtin (b := .append) (xs := #[.tmp 35, .tmp 39]) rfl ?_); at_builtin; refine Kd.R_append (Kd.int .u8) (w0 := w) w.heap.size rfl (.tmp 35) (.tmp 39) 70 5 (.int .u8 0) 1 rfl Tryz.underlying70 info5 rfl (by decide) (by omega) u6 x6_1 (bt a0 x7_1) [.int .u8 (bt a0 x7_1)] (fun _ => True) (fun _ => False) rfl rfl ?aP (fun _ hk => hk.elim) ?aF ?aO ?aB ?aS ?aL ?_; (case aP => exact rfl); (case aB => exact (by repeat (first | (with_reducible first | exact HB.out | apply below_alloc | apply pw_below_drewN | apply below_drew1) | exact HB.out))); (case aF => exact (fun _ _ => trivial)); (case aO => exact (by (with_reducible repeat (first | apply Kd.R_alloc | apply Kd.R_drewN | apply Kd.R_drew)); exact HO_6.out)); (case aS => exact (below_size (by repeat (first | (with_reducible first | exact HB.out | apply below_alloc | apply pw_below_drewN | apply below_drew1) | exact HB.out)))); (case aL => have := LMc52.out; omega); intro v117 w53 ho hb hg hat; rw [← Ny116.out] at ho; have n0_ := Aside0.mk (hb); have n1_ := Aside0.mk (ho); clear HB; clear HO_6; have HB := n0_; have HO118 := n1_; clear n0_ n1_; clear ho hb hg hat)))
                  go_roundg k1
                  case measure => have := HK1.out; omega
                  case rel => exact ⟨(y116), (wrap64 (x7_1 + 1)), (by first | rfl | (simp; done) | (simp [*]; done)), H', ⟨by have := HK1.out; omega⟩, ⟨by (with_reducible repeat (first | apply Kd.R_alloc | apply Kd.R_drewN | apply Kd.R_drew)); exact HO118.out⟩, ⟨by repeat (first | (with_reducible first | exact HB.out | apply below_alloc | apply pw_below_drewN | apply below_drew1) | exact HB.out)⟩⟩
                · rw [if_neg c52] at H
                  exact absurd H (by simp)
            · rw [if_neg c42] at H
              have c42b0 : (a1 == 2) = false := beq_eq_false_iff_ne.mpr c42
              have c42b1 : (a1 != 2) = true := bne_iff_ne.mpr c42
              by_cases c55 : x6_1.length < 140737488355328
              · rw [if_pos c55] at H
                have LMc55 := Aside0.mk c55
                clear c55
                obtain ⟨y119, hy119⟩ : ∃ y_ : List Int, y_ = (x6_1 ++ [bt a0 x7_1]) := ⟨_, rfl⟩
                replace H : (spec_Unescape.l0 k1 a0 a1 y119 (wrap64 (x7_1 + 1))) = some (r1, r2) := by first | (rw [hy119]; with_reducible exact H) | (have H2_ := (Option.bind_some _ _).symm.trans H; rw [hy119]; with_reducible exact H2_) | (have H2_ := (Option.bind_some _ _).symm.trans H; with_reducible exact H2_) | with_reducible exact H | (rw [hy119]; exact H) | exact H
                have Ny119 := Aside0.mk hy119
                clear hy119
                have H' := Aside0.mk H
                clear H
                have p7 : 0 ≤ (x7_1 : Int) := of_decide_eq_true (by first | (with_reducible assumption) | assumption)
                have q7 : x7_1 < (a0.size : Int) := of_decide_eq_true (by first | (with_reducible assumption) | assumption)
                have hx7 := bt_at a0 x7_1
                replace p7 := eq_true p7
                replace q7 := eq_true q7
                have p54 : 0 ≤ (x7_1 : Int) := of_decide_eq_true (by first | (with_reducible assumption) | assumption)
                have q54 : x7_1 < (a0.size : Int) := of_decide_eq_true (by first | (with_reducible assumption) | assumption)
                have hx54 := bt_at a0 x7_1
                replace p54 := eq_true p54
                replace q54 := eq_true q54
                go_wp2_with (first | ((with_reducible refine gate_builtin (b := .append) (xs := #[.tmp 35, .tmp 39]) rfl ?_); at_builtin; refine Kd.R_append (Kd.int .u8) (w0 := w) w.heap.size rfl (.tmp 35) (.tmp 39) 70 5 (.int .u8 0) 1 rfl Tryz.underlying70 info5 rfl (by decide) (by omega) u6 x6_1 (bt a0 x7_1) [.int .u8 (bt a0 x7_1)] (fun _ => True) (fun _ => False) rfl rfl ?aP (fun _ hk => hk.elim) ?aF ?aO ?aB ?aS ?aL ?_; (case aP => exact rfl); (case aB => exact (by repeat (first | (with_reducible first | exact HB.out | apply below_alloc | apply pw_below_drewN | apply below_drew1) | exact HB.out))); (case aF => exact (fun _ _ => trivial)); (case aO => exact (by (with_reducible repeat (first | apply Kd.R_alloc | apply Kd.R_drewN | apply Kd.R_drew)); exact HO_6.out)); (case aS => exact (below_size (by repeat (first | (with_reducible first | exact HB.out | apply below_alloc | apply pw_below_drewN | apply below_drew1) | exact HB.out)))); (case aL => have := LMc55.out; omega); intro v120 w56 ho hb hg hat; rw [← Ny119.out] at ho; have n0_ := Aside0.mk (hb); have n1_ := Aside0.mk (ho); clear HB; clear HO_6; have HB := n0_; have HO121 := n1_; clear n0_ n1_; clear ho hb hg hat))
                repeat (go_quiet (first | ((with_reducible refine gate_builtin (b := .append) (xs := #[.tmp 35, .tmp 39]) rfl ?_); at_builtin; refine Kd.R_append (Kd.int .u8) (w0 := w) w.heap.size rfl (.tmp 35) (.tmp 39) 70 5 (.int .u8 0) 1 rfl Tryz.underlying70 info5 rfl (by decide) (by omega) u6 x6_1 (bt a0 x7_1) [.int .u8 (bt a0 x7_1)] (fun _ => True) (fun _ => False) rfl rfl ?aP (fun _ hk => hk.elim) ?aF ?aO ?aB ?aS ?aL ?_; (case aP => exact rfl); (case aB => exact (by repeat (first | (with_reducible first | exact HB.out | apply below_alloc | apply pw_below_drewN | apply below_drew1) | exact HB.out))); (case aF => exact (fun _ _ => trivial)); (case aO => exact (by (with_reducible repeat (first | apply Kd.R_alloc | apply Kd.R_drewN | apply Kd.R_drew)); exact HO_6.out)); (case aS => exact (below_size (by repeat (first | (with_reducible first | exact HB.out | apply below_alloc | apply pw_below_drewN | apply below_drew1) | exact HB.out)))); (case aL => have := LMc55.out; omega); intro v120 w56 ho hb hg hat; rw [← Ny119.out] at ho; have n0_ := Aside0.mk (hb); have n1_ := Aside0.mk (ho); clear HB; clear HO_6; have HB := n0_; have HO121 := n1_; clear n0_ n1_; clear ho hb hg hat)); try go_wp2_with (first | ((with_reducible refine gate_builtin (b := .append) (xs := #[.tmp 35, .tmp 39]) rfl ?_); at_builtin; refine Kd.R_append (Kd.int .u8) (w0 := w) w.heap.size rfl (.tmp 35) (.tmp 39) 70 5 (.int .u8 0) 1 rfl Tryz.underlying70 info5 rfl (by decide) (by omega) u6 x6_1 (bt a0 x7_1) [.int .u8 (bt a0 x7_1)] (fun _ => True) (fun _ => False) rfl rfl ?aP (fun _ hk => hk.elim) ?aF ?aO ?aB ?aS ?aL ?_; (case aP => exact rfl); (case aB => exact (by repeat (first | (with_reducible first | exact HB.out | apply below_alloc | apply pw_below_drewN | apply below_drew1) | exact HB.out))); (case aF => exact (fun _ _ => trivial)); (case aO => exact (by (with_reducible repeat (first | apply Kd.R_alloc | apply Kd.R_drewN | apply Kd.R_drew)); exact HO_6.out)); (case aS => exact (below_size (by repeat (first | (with_reducible first | exact HB.out | apply below_alloc | apply pw_below_drewN | apply below_drew1) | exact HB.out)))); (case aL => have := LMc55.out; omega); intro v120 w56 ho hb hg hat; rw [← Ny119.out] at ho; have n0_ := Aside0.mk (hb); have n1_ := Aside0.mk (ho); clear HB; clear HO_6; have HB := n0_; have HO121 := n1_; clear n0_ n1_; clear ho hb hg hat)))
                go_roundg k1
                case measure => have := HK1.out; omega
                case rel => exact ⟨(y119), (wrap64 (x7_1 + 1)), (by first | rfl | (simp; done) | (simp [*]; done)), H', ⟨by have := HK1.out; omega⟩, ⟨by (with_reducible repeat (first | apply Kd.R_alloc | apply Kd.R_drewN | apply Kd.R_drew)); exact HO121.out⟩, ⟨by repeat (first | (with_reducible first | exact HB.out | apply below_alloc | apply pw_below_drewN | apply below_drew1) | exact HB.out)⟩⟩
              · rw [if_neg c55] at H
                exact absurd H (by simp)
        · rw [if_neg c6] at H
          exact absurd H (by simp)
      · rw [if_neg c5] at H
        have c5b0 : decide (x7_1 < (a0.size : Int)) = false := decide_eq_false c5
        clear c5
        simp only [Option.some.injEq, Prod.mk.injEq] at H
        obtain ⟨rfl, rfl⟩ := H
        have hcv57 := own_string (P := Tryz.prog) Tryz.underlying70 Tryz.underlying5 Tryz.underlying9 (Kd.own_of_R HO_6.out)
        go_wp2
        repeat (go_quiet (fail); try go_wp2)
        go_ret2
        exact ⟨by first | rfl | (simp [errW_none, errW_some] <;> rfl) | (simp [*, errW_none, errW_some] <;> rfl), by repeat (first | (with_reducible first | exact HB.out | apply below_alloc | apply pw_below_drewN | apply below_drew1) | exact HB.out)⟩

end Go.Proofs.YtphkohpphdcjhaaGreatDoor.PFnJoinText
