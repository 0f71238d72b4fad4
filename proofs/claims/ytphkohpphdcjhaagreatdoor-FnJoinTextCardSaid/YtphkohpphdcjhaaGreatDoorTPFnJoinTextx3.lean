/- The printed functions of the reference. -/
import Derived.Test.YtphkohpphdcjhaaGreatDoorTPFnJoinTextx0
import Derived.Test.YtphkohpphdcjhaaGreatDoorTPFnJoinTextx1
import Derived.Test.YtphkohpphdcjhaaGreatDoorTPFnJoinTextx2
namespace Go.Proofs.YtphkohpphdcjhaaGreatDoor.PFnJoinText
open Go.RowKit Go.Proofs.YtphkohpphdcjhaaGreatDoorW.PrintWords Go.Proofs.YtphkohpphdcjhaaGreatDoorW.PrintLast Go.Proofs.YtphkohpphdcjhaaGreatDoorW.PrintMore
attribute [local go_sem] max2_int min2_int max_two min_two max_three min_three max_four min_four   -- for this text's walks alone
set_option linter.unusedVariables false
set_option linter.unusedSimpArgs false

/-! ### spec_Escape: function 38 -/
def spec_Escape.l0 : Nat → ByteArray → Int → List Int → Int → Int → Option (ByteArray)
  | 0, _, _, _, _, _ => none
  | k + 1, x0, x1, x5, x9, x10 => if x10 < x9 then (if 0 ≤ x10 then (if x10 < (x0.size : Int) then ((spec_free.f k (bt x0 x10) x1).bind fun t138 => (if t138 = true then (if x5.length < 140737488355328 then (spec_Escape.l0 k x0 x1 (x5 ++ [bt x0 x10]) x9 (wrap64 (x10 + 1))) else (none)) else (if 0 ≤ ((bt x0 x10) / 16) then (if ((bt x0 x10) / 16) < 16 then (if 0 ≤ (Go.bits .and .u8 (bt x0 x10) 15) then (if (Go.bits .and .u8 (bt x0 x10) 15) < 16 then ((some (([37, bt (⟨#[48, 49, 50, 51, 52, 53, 54, 55, 56, 57, 65, 66, 67, 68, 69, 70]⟩ : ByteArray) ((bt x0 x10) / 16), bt (⟨#[48, 49, 50, 51, 52, 53, 54, 55, 56, 57, 65, 66, 67, 68, 69, 70]⟩ : ByteArray) (Go.bits .and .u8 (bt x0 x10) 15)] : List Int) : List Int)).bind fun y142 => (if x5.length + y142.length < 140737488355328 then (spec_Escape.l0 k x0 x1 (x5 ++ y142) x9 (wrap64 (x10 + 1))) else (none))) else (none)) else (none)) else (none)) else (none)))) else (none)) else (none)) else (some (strOfNums x5))
def spec_Escape.f (k : Nat) (a0 : ByteArray) (a1 : Int) : Option (ByteArray) := spec_Escape.l0 k a0 a1 (([] : List Int)) (a0.size : Int) 0
theorem spec_Escape.mono_l : ∀ k, (∀ y0 y1 y2 y3 y4, LeO (spec_Escape.l0 k y0 y1 y2 y3 y4) (spec_Escape.l0 (k + 1) y0 y1 y2 y3 y4))
  | 0 => fun _ _ _ _ _ r h => by simp [spec_Escape.l0] at h
  | k + 1 => by
    have ih0 := spec_Escape.mono_l k
    · intro y0 y1 y2 y3 y4
      unfold spec_Escape.l0
      repeat' first
      | (with_reducible exact ih0 _ _ _ _ _)
      | (with_reducible exact spec_free.mono _ _ _)
      | (with_reducible exact LeO.refl _)
      | (with_reducible exact LeO.none _)
      | (with_reducible refine LeO.ite ?_ ?_)
      | (with_reducible refine LeO.bind ?_ (fun _ => ?_))
      | exact ih0 _ _ _ _ _
      | exact spec_free.mono _ _ _
      | exact LeO.none _
      | refine LeO.ite ?_ ?_
      | refine LeO.bind ?_ (fun _ => ?_)
theorem spec_Escape.mono : ∀ a0 a1 k, LeO (spec_Escape.f k a0 a1) (spec_Escape.f (k + 1) a0 a1) := by
  intro a0 a1 k
  have ih0 := spec_Escape.mono_l k
  unfold spec_Escape.f
  repeat' first
      | (with_reducible exact ih0 _ _ _ _ _)
      | (with_reducible exact spec_free.mono _ _ _)
      | (with_reducible exact LeO.refl _)
      | (with_reducible exact LeO.none _)
      | (with_reducible refine LeO.ite ?_ ?_)
      | (with_reducible refine LeO.bind ?_ (fun _ => ?_))
      | exact ih0 _ _ _ _ _
      | exact spec_free.mono _ _ _
      | exact LeO.none _
      | refine LeO.ite ?_ ?_
      | refine LeO.bind ?_ (fun _ => ?_)
def spec_Escape.T7 : Bool × List (List Nat × List Nat) := (true, [([], []), ([], []), ([], []), ([1, 2], [1, 2]), ([3], [3]), ([4], [4]), ([], []), ([], []), ([6, 7], [6, 7]), ([8], [8]), ([9], [9]), ([5, 10], [5, 10]), ([0, 11], [0, 11]), ([12, 12, 0, 1, 2, 3, 4, 5, 6, 7, 8, 9, 10, 11, 12], [0, 12])])
def spec_Escape.B7 : List Nat := [0, 0, 0, 6, 14, 30, 0, 0, 192, 448, 960, 2046, 4095, 8191]
theorem spec_Escape.tab7 : rtab .any (opsOf Tryz.f38 7) = spec_Escape.T7 := by kernel_rfl
theorem spec_Escape.bits7 : waitsOk spec_Escape.T7.2 spec_Escape.B7 = true := by kernel_rfl
set_option maxHeartbeats 8000000 in
set_option maxRecDepth 100000 in
theorem spec_Escape.calls (k : Nat) (a0 : ByteArray) (a1 : Int) (r : ByteArray) (w : World) (h : spec_Escape.f k a0 a1 = some r) :
    Calls Tryz.prog 38 #[.string a0, .int .i64 a1] w fun e w' => e = .returned (.string r) ∧ Below w.heap.size w w' := by
  have HB := Aside0.mk (Below.refl w.heap.size w)
  have H : (spec_Escape.l0 k a0 a1 (([] : List Int)) (a0.size : Int) 0) = some r := h
  clear h
  obtain ⟨y135, hy135⟩ : ∃ y_ : List Int, y_ = (([] : List Int)) := ⟨_, rfl⟩
  replace H : (spec_Escape.l0 k a0 a1 y135 (a0.size : Int) 0) = some r := by first | (rw [hy135]; with_reducible exact H) | (have H2_ := (Option.bind_some _ _).symm.trans H; rw [hy135]; with_reducible exact H2_) | (have H2_ := (Option.bind_some _ _).symm.trans H; with_reducible exact H2_) | with_reducible exact H | (rw [hy135]; exact H) | exact H
  have Ny135 := Aside0.mk hy135
  clear hy135
  have H' := Aside0.mk H
  clear H
  go_enter Tryz.func38, Tryz.ntmps38
  go_wp2_with (first | ((with_reducible refine gate_dst (N := 7) rfl ?_); refine Kd.R_lit (Kd.int .u8) _ 5 ?hg (N := 7) ?hd (xs := ([] : List Int)) (inner := []) (ok := fun _ => True) (okp := fun _ => True) ?hr ?hp (fun _ hk => hk) trivial (Below.refl _ _) (Nat.le_refl _) (by simp) ?_; (case hd => rfl); (case hg => rfl); (case hr => first | (go_simp; done) | (go_simp; rfl)); (case hp => exact (Reps.none _ _)); intro v136 w3 ho4 hb hg_ hnew_; clear hg_ hnew_; (first | rw [← Ny135.out] at ho4 | (simp only [Int.reduceToNat] at ho4; rw [← Ny135.out] at ho4)); have n0_ := Aside0.mk (Kd.R_lower ho4 (below_size (by repeat (first | (with_reducible first | exact HB.out | apply below_alloc | apply pw_below_drewN | apply below_drew1) | exact HB.out)))); have n1_ := Aside0.mk (below_step (by repeat (first | (with_reducible first | exact HB.out | apply below_alloc | apply pw_below_drewN | apply below_drew1) | exact HB.out)) hb); clear HB; have HO137 := n0_; have HB := n1_; clear n0_ n1_; clear hb ho4))
  go_loopg [5, 10] k (fun kq v5 v10 w' => ∃ (x5_1 : List Int) (x10_1 : Int), v10 = .int .i64 x10_1 ∧ Aside0 (spec_Escape.l0 kq a0 a1 x5_1 (a0.size : Int) x10_1 = some r) ∧ Aside0 (kq ≤ k) ∧ Aside0 (Kd.R (Kd.int .u8) 5 w' w.heap.size (fun _ => True) v5 x5_1) ∧ Aside0 (Below w.heap.size w w'))
  case atStart => exact ⟨(y135), (0), (by first | rfl | (simp; done) | (simp [*]; done)), H', ⟨Nat.le_refl _⟩, ⟨by (with_reducible repeat (first | apply Kd.R_alloc | apply Kd.R_drewN | apply Kd.R_drew)); exact HO137.out⟩, ⟨by repeat (first | (with_reducible first | exact HB.out | apply below_alloc | apply pw_below_drewN | apply below_drew1) | exact HB.out)⟩⟩
  case round =>
    clear H'
    try clear p2
    try clear c3
    obtain ⟨x5_1, x10_1, rfl, HA, HK1, HO_5, HB⟩ := hrel
    cases gk with
    | zero => exact absurd HA.out (by simp [spec_Escape.l0])
    | succ k1 =>
      have H := HA.out
      clear HA
      simp only [spec_Escape.l0] at H
      by_cases c5 : x10_1 < (a0.size : Int)
      · rw [if_pos c5] at H
        have c5b0 : decide (x10_1 < (a0.size : Int)) = true := decide_eq_true c5
        clear c5
        by_cases c6 : 0 ≤ x10_1
        · rw [if_pos c6] at H
          have c6b0 : decide (0 ≤ x10_1) = true := decide_eq_true c6
          clear c6
          by_cases c7 : x10_1 < (a0.size : Int)
          · rw [if_pos c7] at H
            have c7b0 : decide (x10_1 < (a0.size : Int)) = true := decide_eq_true c7
            clear c7
            replace H := Option.bind_eq_some_iff.mp H
            obtain ⟨t138, A90, H⟩ := H
            replace H : (if t138 = true then (if x5_1.length < 140737488355328 then (spec_Escape.l0 k1 a0 a1 (x5_1 ++ [bt a0 x10_1]) (a0.size : Int) (wrap64 (x10_1 + 1))) else (none)) else (if 0 ≤ ((bt a0 x10_1) / 16) then (if ((bt a0 x10_1) / 16) < 16 then (if 0 ≤ (Go.bits .and .u8 (bt a0 x10_1) 15) then (if (Go.bits .and .u8 (bt a0 x10_1) 15) < 16 then ((some (([37, bt (⟨#[48, 49, 50, 51, 52, 53, 54, 55, 56, 57, 65, 66, 67, 68, 69, 70]⟩ : ByteArray) ((bt a0 x10_1) / 16), bt (⟨#[48, 49, 50, 51, 52, 53, 54, 55, 56, 57, 65, 66, 67, 68, 69, 70]⟩ : ByteArray) (Go.bits .and .u8 (bt a0 x10_1) 15)] : List Int) : List Int)).bind fun y142 => (if x5_1.length + y142.length < 140737488355328 then (spec_Escape.l0 k1 a0 a1 (x5_1 ++ y142) (a0.size : Int) (wrap64 (x10_1 + 1))) else (none))) else (none)) else (none)) else (none)) else (none))) = some r := H
            have A9 := Aside0.mk A90
            clear A90
            by_cases c10 : t138 = true
            · subst c10
              have H1 : (if x5_1.length < 140737488355328 then (spec_Escape.l0 k1 a0 a1 (x5_1 ++ [bt a0 x10_1]) (a0.size : Int) (wrap64 (x10_1 + 1))) else (none)) = some r := by rw [if_pos rfl] at H; exact H
              clear H
              have H := H1
              clear H1
              by_cases c12 : x5_1.length < 140737488355328
              · rw [if_pos c12] at H
                have LMc12 := Aside0.mk c12
                clear c12
                obtain ⟨y139, hy139⟩ : ∃ y_ : List Int, y_ = (x5_1 ++ [bt a0 x10_1]) := ⟨_, rfl⟩
                replace H : (spec_Escape.l0 k1 a0 a1 y139 (a0.size : Int) (wrap64 (x10_1 + 1))) = some r := by first | (rw [hy139]; with_reducible exact H) | (have H2_ := (Option.bind_some _ _).symm.trans H; rw [hy139]; with_reducible exact H2_) | (have H2_ := (Option.bind_some _ _).symm.trans H; with_reducible exact H2_) | with_reducible exact H | (rw [hy139]; exact H) | exact H
                have Ny139 := Aside0.mk hy139
                clear hy139
                have H' := Aside0.mk H
                clear H
                have p8 : 0 ≤ (x10_1 : Int) := of_decide_eq_true (by first | (with_reducible assumption) | assumption)
                have q8 : x10_1 < (a0.size : Int) := of_decide_eq_true (by first | (with_reducible assumption) | assumption)
                have hx8 := bt_at a0 x10_1
                replace p8 := eq_true p8
                replace q8 := eq_true q8
                go_wp2_with (first | ((with_reducible refine gate_callee (f := 63) rfl ?_); refine goesL_ (some 17) rfl rfl Tryz.func63 (by kernel_rfl) rfl #[.int .u8 (bt a0 x10_1), .int .i64 a1] rfl (by (try simp only [List.map_toArray, List.map_cons, List.map_nil]); first | done | rfl | (simp only [List.length_drop, List.length_take]; rfl)) ?_; (with_reducible refine (spec_free.calls k1 (bt a0 x10_1) a1 true _ A9.out).mono ?_); rintro e w' ⟨rfl, ⟨nd, rfl⟩⟩; refine ⟨_, rfl, ?_⟩; have p11 : 0 ≤ (x10_1 : Int) := of_decide_eq_true (by first | (with_reducible assumption) | assumption); have q11 : x10_1 < (a0.size : Int) := of_decide_eq_true (by first | (with_reducible assumption) | assumption); have hx11 := bt_at a0 x10_1; replace p11 := eq_true p11; replace q11 := eq_true q11) | ((with_reducible refine gate_builtin (b := .append) (xs := #[.tmp 18, .tmp 22]) rfl ?_); at_builtin; refine Kd.R_append (Kd.int .u8) (w0 := w) w.heap.size rfl (.tmp 18) (.tmp 22) 70 5 (.int .u8 0) 1 rfl Tryz.underlying70 info5 rfl (by decide) (by omega) u5 x5_1 (bt a0 x10_1) [.int .u8 (bt a0 x10_1)] (fun _ => True) (fun _ => False) rfl rfl ?aP (fun _ hk => hk.elim) ?aF ?aO ?aB ?aS ?aL ?_; (case aP => exact rfl); (case aB => exact (by repeat (first | (with_reducible first | exact HB.out | apply below_alloc | apply pw_below_drewN | apply below_drew1) | exact HB.out))); (case aF => exact (fun _ _ => trivial)); (case aO => exact (by (with_reducible repeat (first | apply Kd.R_alloc | apply Kd.R_drewN | apply Kd.R_drew)); exact HO_5.out)); (case aS => exact (below_size (by repeat (first | (with_reducible first | exact HB.out | apply below_alloc | apply pw_below_drewN | apply below_drew1) | exact HB.out)))); (case aL => have := LMc12.out; omega); intro v140 w13 ho hb hg hat; rw [← Ny139.out] at ho; have n0_ := Aside0.mk (hb); have n1_ := Aside0.mk (ho); clear HB; clear HO_5; have HB := n0_; have HO141 := n1_; clear n0_ n1_; clear ho hb hg hat))
                go_roundg k1
                case measure => have := HK1.out; omega
                case rel => exact ⟨(y139), (wrap64 (x10_1 + 1)), (by first | rfl | (simp; done) | (simp [*]; done)), H', ⟨by have := HK1.out; omega⟩, ⟨by (with_reducible repeat (first | apply Kd.R_alloc | apply Kd.R_drewN | apply Kd.R_drew)); exact HO141.out⟩, ⟨by repeat (first | (with_reducible first | exact HB.out | apply below_alloc | apply pw_below_drewN | apply below_drew1) | exact HB.out)⟩⟩
              · rw [if_neg c12] at H
                exact absurd H (by simp)
            · replace c10 := Bool.eq_false_iff.mpr c10
              subst c10
              have H1 : (if 0 ≤ ((bt a0 x10_1) / 16) then (if ((bt a0 x10_1) / 16) < 16 then (if 0 ≤ (Go.bits .and .u8 (bt a0 x10_1) 15) then (if (Go.bits .and .u8 (bt a0 x10_1) 15) < 16 then ((some (([37, bt (⟨#[48, 49, 50, 51, 52, 53, 54, 55, 56, 57, 65, 66, 67, 68, 69, 70]⟩ : ByteArray) ((bt a0 x10_1) / 16), bt (⟨#[48, 49, 50, 51, 52, 53, 54, 55, 56, 57, 65, 66, 67, 68, 69, 70]⟩ : ByteArray) (Go.bits .and .u8 (bt a0 x10_1) 15)] : List Int) : List Int)).bind fun y142 => (if x5_1.length + y142.length < 140737488355328 then (spec_Escape.l0 k1 a0 a1 (x5_1 ++ y142) (a0.size : Int) (wrap64 (x10_1 + 1))) else (none))) else (none)) else (none)) else (none)) else (none)) = some r := by rw [if_neg (show ¬ (false = true) by decide)] at H; exact H
              clear H
              have H := H1
              clear H1
              obtain ⟨ji15, hji15⟩ : ∃ j_ : Int, ((bt a0 x10_1) / 16) = j_ := ⟨_, rfl⟩
              replace H : (if 0 ≤ (ji15) then (if (ji15) < 16 then (if 0 ≤ (Go.bits .and .u8 (bt a0 x10_1) 15) then (if (Go.bits .and .u8 (bt a0 x10_1) 15) < 16 then ((some (([37, bt (⟨#[48, 49, 50, 51, 52, 53, 54, 55, 56, 57, 65, 66, 67, 68, 69, 70]⟩ : ByteArray) (ji15), bt (⟨#[48, 49, 50, 51, 52, 53, 54, 55, 56, 57, 65, 66, 67, 68, 69, 70]⟩ : ByteArray) (Go.bits .and .u8 (bt a0 x10_1) 15)] : List Int) : List Int)).bind fun y142 => (if x5_1.length + y142.length < 140737488355328 then (spec_Escape.l0 k1 a0 a1 (x5_1 ++ y142) (a0.size : Int) (wrap64 (x10_1 + 1))) else (none))) else (none)) else (none)) else (none)) else (none)) = some r := by first | (rw [hji15] at H; exact H) | (simp only [hji15] at H ⊢; exact H)
              (try rw [hji15] at A9)
              by_cases c16 : 0 ≤ (ji15)
              · rw [if_pos c16] at H
                have c16b0 : decide (0 ≤ (ji15)) = true := decide_eq_true c16
                clear c16
                by_cases c17 : (ji15) < 16
                · rw [if_pos c17] at H
                  have c17b0 : decide ((ji15) < 16) = true := decide_eq_true c17
                  clear c17
                  by_cases c20 : 0 ≤ (Go.bits .and .u8 (bt a0 x10_1) 15)
                  · rw [if_pos c20] at H
                    have c20b0 : decide (0 ≤ (Go.bits .and .u8 (bt a0 x10_1) 15)) = true := decide_eq_true c20
                    clear c20
                    by_cases c21 : (Go.bits .and .u8 (bt a0 x10_1) 15) < 16
                    · rw [if_pos c21] at H
                      have c21b0 : decide ((Go.bits .and .u8 (bt a0 x10_1) 15) < 16) = true := decide_eq_true c21
                      clear c21
                      obtain ⟨y142, hy142⟩ : ∃ y_ : List Int, y_ = (([37, bt (⟨#[48, 49, 50, 51, 52, 53, 54, 55, 56, 57, 65, 66, 67, 68, 69, 70]⟩ : ByteArray) (ji15), bt (⟨#[48, 49, 50, 51, 52, 53, 54, 55, 56, 57, 65, 66, 67, 68, 69, 70]⟩ : ByteArray) (Go.bits .and .u8 (bt a0 x10_1) 15)] : List Int)) := ⟨_, rfl⟩
                      replace H : (if x5_1.length + y142.length < 140737488355328 then (spec_Escape.l0 k1 a0 a1 (x5_1 ++ y142) (a0.size : Int) (wrap64 (x10_1 + 1))) else (none)) = some r := by first | (rw [hy142]; with_reducible exact H) | (have H2_ := (Option.bind_some _ _).symm.trans H; rw [hy142]; with_reducible exact H2_) | (have H2_ := (Option.bind_some _ _).symm.trans H; with_reducible exact H2_) | with_reducible exact H | (rw [hy142]; exact H) | exact H
                      have Ny142 := Aside0.mk hy142
                      clear hy142
                      by_cases c23 : x5_1.length + y142.length < 140737488355328
                      · rw [if_pos c23] at H
                        have LMc23 := Aside0.mk c23
                        clear c23
                        obtain ⟨y145, hy145⟩ : ∃ y_ : List Int, y_ = (x5_1 ++ y142) := ⟨_, rfl⟩
                        replace H : (spec_Escape.l0 k1 a0 a1 y145 (a0.size : Int) (wrap64 (x10_1 + 1))) = some r := by first | (rw [hy145]; with_reducible exact H) | (have H2_ := (Option.bind_some _ _).symm.trans H; rw [hy145]; with_reducible exact H2_) | (have H2_ := (Option.bind_some _ _).symm.trans H; with_reducible exact H2_) | with_reducible exact H | (rw [hy145]; exact H) | exact H
                        have Ny145 := Aside0.mk hy145
                        clear hy145
                        have H' := Aside0.mk H
                        clear H
                        have p8 : 0 ≤ (x10_1 : Int) := of_decide_eq_true (by first | (with_reducible assumption) | assumption)
                        have q8 : x10_1 < (a0.size : Int) := of_decide_eq_true (by first | (with_reducible assumption) | assumption)
                        have hx8 := bt_at a0 x10_1
                        replace p8 := eq_true p8
                        replace q8 := eq_true q8
                        try go_wp2_with (first | ((with_reducible refine gate_callee (f := 63) rfl ?_); refine goesL_ (some 17) rfl rfl Tryz.func63 (by kernel_rfl) rfl #[.int .u8 (bt a0 x10_1), .int .i64 a1] rfl (by (try simp only [List.map_toArray, List.map_cons, List.map_nil]); first | done | rfl | (simp only [List.length_drop, List.length_take]; rfl)) ?_; (with_reducible refine (spec_free.calls k1 (bt a0 x10_1) a1 false _ A9.out).mono ?_); rintro e w' ⟨rfl, ⟨nd, rfl⟩⟩; refine ⟨_, rfl, ?_⟩))
                        (try (rw [drewN_self wr]; generalize hq_ : World.drewN wr _ = wr; have n0_ : Aside0 (Kd.R (Kd.int .u8) 5 wr w.heap.size (fun _ => True) u5 x5_1) := ⟨by rw [← hq_]; exact (by (with_reducible repeat (first | apply Kd.R_alloc | apply Kd.R_drewN | apply Kd.R_drew)); exact HO_5.out)⟩; have n1_ : Aside0 (Below w.heap.size w wr) := ⟨by rw [← hq_]; exact (by repeat (first | (with_reducible first | exact HB.out | apply below_alloc | apply pw_below_drewN | apply below_drew1) | exact HB.out))⟩; clear HO_5 HB hq_; have HO_5 := n0_; have HB := n1_; clear n0_ n1_))
                        have n0_ := Aside0.mk (Kd.R_drew HO_5.out)
                        have n1_ := Aside0.mk (below_drew1 HB.out)
                        clear HO_5
                        clear HB
                        have HO_5 := n0_
                        have HB := n1_
                        clear n0_ n1_
                        have p14 : 0 ≤ (x10_1 : Int) := of_decide_eq_true (by first | (with_reducible assumption) | assumption)
                        have q14 : x10_1 < (a0.size : Int) := of_decide_eq_true (by first | (with_reducible assumption) | assumption)
                        have hx14 := bt_at a0 x10_1
                        replace p14 := eq_true p14
                        replace q14 := eq_true q14
                        have p18 : 0 ≤ ((ji15) : Int) := of_decide_eq_true (by first | (with_reducible assumption) | assumption)
                        have q18 : (ji15) < (16 : Int) := of_decide_eq_true (by first | (with_reducible assumption) | assumption)
                        have hx18 := bt_at (⟨#[48, 49, 50, 51, 52, 53, 54, 55, 56, 57, 65, 66, 67, 68, 69, 70]⟩ : ByteArray) (ji15)
                        replace p18 := eq_true p18
                        replace q18 := eq_true q18
                        have p19 : 0 ≤ (x10_1 : Int) := of_decide_eq_true (by first | (with_reducible assumption) | assumption)
                        have q19 : x10_1 < (a0.size : Int) := of_decide_eq_true (by first | (with_reducible assumption) | assumption)
                        have hx19 := bt_at a0 x10_1
                        replace p19 := eq_true p19
                        replace q19 := eq_true q19
                        have p22 : 0 ≤ ((Go.bits .and .u8 (bt a0 x10_1) 15) : Int) := of_decide_eq_true (by first | (with_reducible assumption) | assumption)
                        have q22 : (Go.bits .and .u8 (bt a0 x10_1) 15) < (16 : Int) := of_decide_eq_true (by first | (with_reducible assumption) | assumption)
                        have hx22 := bt_at (⟨#[48, 49, 50, 51, 52, 53, 54, 55, 56, 57, 65, 66, 67, 68, 69, 70]⟩ : ByteArray) (Go.bits .and .u8 (bt a0 x10_1) 15)
                        replace p22 := eq_true p22
                        replace q22 := eq_true q22
                        refine start_ (n := 14) (S := fun w' => True) (ds := []) #[false, false, false, false, false, false, false, false, false, false, false, false, false, false] (by kernel_rfl) rfl rfl trivial (fun hHeld => ?_); refine with_tabW spec_Escape.tab7 spec_Escape.bits7 (fun HT_ HW_ => ?_)
                        generalize wr.drew = w24 at HO_5 HB hHeld ⊢
                        refine pure_ (i := 0) (N := some 24) (v := ?_) (a' := ?_) #[true, false, false, false, false, false, false, false, false, false, false, false, false, false] rfl rfl (any_of HT_.out (by kernel_rfl)) (fun _ _ _ h => h) (Or.inl ⟨by rfl, ?_⟩) ?_ ?_
                        rotate_left
                        · intro w'
                          go_simp
                          with_reducible rfl
                        rotate_left
                        · simp only [Act.put, List.setIfInBounds_toArray, List.set_cons_zero, List.set_cons_succ, i64_w, i32_w]
                          rfl
                        refine pure_ (i := 1) (N := some 25) (v := ?_) (a' := ?_) #[true, true, false, false, false, false, false, false, false, false, false, false, false, false] rfl rfl (any_of HT_.out (by kernel_rfl)) (fun _ _ _ h => h) (Or.inl ⟨by rfl, ?_⟩) ?_ ?_
                        rotate_left
                        · intro w'
                          go_simp
                          with_reducible rfl
                        rotate_left
                        · simp only [Act.put, List.setIfInBounds_toArray, List.set_cons_zero, List.set_cons_succ, i64_w, i32_w]
                          rfl
                        refine pure_ (i := 2) (N := some 26) (v := ?_) (a' := ?_) #[true, true, true, false, false, false, false, false, false, false, false, false, false, false] rfl rfl (any_of HT_.out (by kernel_rfl)) (fun _ _ _ h => h) (Or.inl ⟨by rfl, ?_⟩) ?_ ?_
                        rotate_left
                        · intro w'
                          go_simp
                          with_reducible rfl
                        rotate_left
                        · simp only [Act.put, List.setIfInBounds_toArray, List.set_cons_zero, List.set_cons_succ, i64_w, i32_w]
                          rfl
                        refine pure_ (i := 6) (N := some 30) (v := ?_) (a' := ?_) #[true, true, true, false, false, false, true, false, false, false, false, false, false, false] rfl rfl (any_of HT_.out (by kernel_rfl)) (fun _ _ _ h => h) (Or.inl ⟨by rfl, ?_⟩) ?_ ?_
                        rotate_left
                        · intro w'
                          go_simp
                          with_reducible rfl
                        rotate_left
                        · simp only [Act.put, List.setIfInBounds_toArray, List.set_cons_zero, List.set_cons_succ, i64_w, i32_w]
                          rfl
                        refine pure_ (i := 7) (N := some 31) (v := ?_) (a' := ?_) #[true, true, true, false, false, false, true, true, false, false, false, false, false, false] rfl rfl (any_of HT_.out (by kernel_rfl)) (fun _ _ _ h => h) (Or.inl ⟨by rfl, ?_⟩) ?_ ?_
                        rotate_left
                        · intro w'
                          go_simp
                          with_reducible rfl
                        rotate_left
                        · simp only [Act.put, List.setIfInBounds_toArray, List.set_cons_zero, List.set_cons_succ, i64_w, i32_w]
                          rfl
                        refine take_ (i := 3) (N := some 27) (v := ?_) (a' := ?_) #[true, true, true, true, false, false, true, true, false, false, false, false, false, false] rfl rfl (take_ofW HT_.out HW_.out (by kernel_rfl)) (fun _ _ _ h => h) (Or.inl ⟨by rfl, ?_⟩) hHeld ?_ ?_
                        rotate_left
                        · intro w' _
                          go_simp
                          with_reducible rfl
                        rotate_left
                        · simp only [Act.put, List.setIfInBounds_toArray, List.set_cons_zero, List.set_cons_succ, i64_w, i32_w]
                          rfl
                        refine pure_ (i := 4) (N := some 28) (v := ?_) (a' := ?_) #[true, true, true, true, true, false, true, true, false, false, false, false, false, false] rfl rfl (any_of HT_.out (by kernel_rfl)) (fun _ _ _ h => h) (Or.inl ⟨by rfl, ?_⟩) ?_ ?_
                        rotate_left
                        · intro w'
                          go_simp
                          with_reducible rfl
                        rotate_left
                        · simp only [Act.put, List.setIfInBounds_toArray, List.set_cons_zero, List.set_cons_succ, i64_w, i32_w]
                          rfl
                        refine take_ (i := 5) (N := some 29) (v := ?_) (a' := ?_) #[true, true, true, true, true, true, true, true, false, false, false, false, false, false] rfl rfl (take_ofW HT_.out HW_.out (by kernel_rfl)) (fun _ _ _ h => h) (Or.inl ⟨by rfl, ?_⟩) hHeld ?_ ?_
                        rotate_left
                        · intro w' _
                          go_simp
                          with_reducible rfl
                        rotate_left
                        · simp only [Act.put, List.setIfInBounds_toArray, List.set_cons_zero, List.set_cons_succ, i64_w, i32_w]
                          rfl
                        refine take_ (i := 8) (N := some 32) (v := ?_) (a' := ?_) #[true, true, true, true, true, true, true, true, true, false, false, false, false, false] rfl rfl (take_ofW HT_.out HW_.out (by kernel_rfl)) (fun _ _ _ h => h) (Or.inl ⟨by rfl, ?_⟩) hHeld ?_ ?_
                        rotate_left
                        · intro w' _
                          go_simp
                          with_reducible rfl
                        rotate_left
                        · simp only [Act.put, List.setIfInBounds_toArray, List.set_cons_zero, List.set_cons_succ, i64_w, i32_w]
                          rfl
                        refine pure_ (i := 9) (N := some 33) (v := ?_) (a' := ?_) #[true, true, true, true, true, true, true, true, true, true, false, false, false, false] rfl rfl (any_of HT_.out (by kernel_rfl)) (fun _ _ _ h => h) (Or.inl ⟨by rfl, ?_⟩) ?_ ?_
                        rotate_left
                        · intro w'
                          go_simp
                          with_reducible rfl
                        rotate_left
                        · simp only [Act.put, List.setIfInBounds_toArray, List.set_cons_zero, List.set_cons_succ, i64_w, i32_w]
                          rfl
                        refine take_ (i := 10) (N := some 34) (v := ?_) (a' := ?_) #[true, true, true, true, true, true, true, true, true, true, true, false, false, false] rfl rfl (take_ofW HT_.out HW_.out (by kernel_rfl)) (fun _ _ _ h => h) (Or.inl ⟨by rfl, ?_⟩) hHeld ?_ ?_
                        rotate_left
                        · intro w' _
                          go_simp
                          with_reducible rfl
                        rotate_left
                        · simp only [Act.put, List.setIfInBounds_toArray, List.set_cons_zero, List.set_cons_succ, i64_w, i32_w]
                          rfl
                        refine one_ (i := 11) (N := some 35) #[true, true, true, true, true, true, true, true, true, true, true, true, false, false] rfl rfl (one_of HT_.out (by kernel_rfl)) (by decide) (fun K hK => ?_)
                        refine Kd.R_lit_step (Kd.int .u8) _ 5 ?hg (N := 35) ?hd (xs := ([37, bt (⟨#[48, 49, 50, 51, 52, 53, 54, 55, 56, 57, 65, 66, 67, 68, 69, 70]⟩ : ByteArray) (ji15), bt (⟨#[48, 49, 50, 51, 52, 53, 54, 55, 56, 57, 65, 66, 67, 68, 69, 70]⟩ : ByteArray) (Go.bits .and .u8 (bt a0 x10_1) 15)] : List Int)) (inner := [.int .u8 37, .int .u8 (bt (⟨#[48, 49, 50, 51, 52, 53, 54, 55, 56, 57, 65, 66, 67, 68, 69, 70]⟩ : ByteArray) (ji15)), .int .u8 (bt (⟨#[48, 49, 50, 51, 52, 53, 54, 55, 56, 57, 65, 66, 67, 68, 69, 70]⟩ : ByteArray) (Go.bits .and .u8 (bt a0 x10_1) 15))]) (ok := fun _ => True) (okp := fun _ => True) ?hr ?hp (fun _ hk => hk) trivial (Below.refl _ _) (Nat.le_refl _) (by simp) ?_; (case hd => rfl); (case hg => rfl); (case hr => first | (go_simp; done) | (go_simp; rfl)); (case hp => exact (Reps.one (show Kd.M (Kd.int .u8) _ _ _ 37 [.int .u8 37] from rfl) (Reps.one (show Kd.M (Kd.int .u8) _ _ _ (bt (⟨#[48, 49, 50, 51, 52, 53, 54, 55, 56, 57, 65, 66, 67, 68, 69, 70]⟩ : ByteArray) (ji15)) [.int .u8 (bt (⟨#[48, 49, 50, 51, 52, 53, 54, 55, 56, 57, 65, 66, 67, 68, 69, 70]⟩ : ByteArray) (ji15))] from rfl) (Reps.one (show Kd.M (Kd.int .u8) _ _ _ (bt (⟨#[48, 49, 50, 51, 52, 53, 54, 55, 56, 57, 65, 66, 67, 68, 69, 70]⟩ : ByteArray) (Go.bits .and .u8 (bt a0 x10_1) 15)) [.int .u8 (bt (⟨#[48, 49, 50, 51, 52, 53, 54, 55, 56, 57, 65, 66, 67, 68, 69, 70]⟩ : ByteArray) (Go.bits .and .u8 (bt a0 x10_1) 15))] from rfl) (Reps.none _ _)))))
                        intro v143 w25 ho26 hb hg_ hnew_
                        clear hg_ hnew_
                        (first | rw [← Ny142.out] at ho26 | (simp only [Int.reduceToNat] at ho26; rw [← Ny142.out] at ho26))
                        have n0_ := Aside0.mk (Kd.R_elder' (by (with_reducible repeat (first | apply Kd.R_alloc | apply Kd.R_drewN | apply Kd.R_drew)); exact HO_5.out) (Kd.R_base ho26) hb)
                        have n1_ := Aside0.mk (Kd.R_lower (Kd.R_new' ho26 (Kd.R_lt (by (with_reducible repeat (first | apply Kd.R_alloc | apply Kd.R_drewN | apply Kd.R_drew)); exact HO_5.out))) (below_size (by repeat (first | (with_reducible first | exact HB.out | apply below_alloc | apply pw_below_drewN | apply below_drew1) | exact HB.out))))
                        have n2_ := Aside0.mk (below_step (by repeat (first | (with_reducible first | exact HB.out | apply below_alloc | apply pw_below_drewN | apply below_drew1) | exact HB.out)) hb)
                        clear HO_5
                        clear HB
                        have HO_5 := n0_
                        have HO144 := n1_
                        have HB := n2_
                        clear n0_ n1_ n2_
                        clear hb ho26
                        obtain ⟨Ao28, co28, eo28⟩ := Kd.R_slice HO144.out
                        (first | subst eo28 | (injection eo28 with f1_ f2_ f3_; have f4_ := f1_.symm; have f5_ := f3_.symm; clear f1_ f2_ f3_; subst f4_; subst f5_))
                        refine hK.out _ _ trivial (fun hHeld => ?_)
                        clear hK K
                        refine norm_ (a' := ?_) ?_ ?_
                        rotate_left
                        · show Act.put _ (some 35) _ = _
                          simp only [Act.put, List.setIfInBounds_toArray, List.set_cons_zero, List.set_cons_succ, i64_w, i32_w]
                          rfl
                        refine one_ (i := 12) (N := some 36) #[true, true, true, true, true, true, true, true, true, true, true, true, true, false] rfl rfl (one_of HT_.out (by kernel_rfl)) (by decide) (fun K hK => ?_)
                        refine Kd.R_append_rows_step (Kd.int .u8) (w0 := w) w.heap.size (by rfl) (.tmp 24) (.tmp 35) 70 5 (.int .u8 0) 1 rfl Tryz.underlying70 info5 rfl (by decide) (by omega) u5 x5_1 y142 _ _ _ (fun k_ => some k_ ≠ (.slice Ao28 y142.length co28 : Value).ownBlock) (fun _ => False) rfl rfl ?aO ?aR (fun _ _ h => h) (fun _ h => h.elim) ?aF ?aB ?aS ?aL ?_
                        (case aR => repeat (first | exact (Kd.R_reads' HO144.out).2.2 | (with_reducible refine Kd.C_alloc ?_ _) | (with_reducible refine Kd.C_drewN ?_ _) | (with_reducible refine Kd.C_drew ?_)))
                        (case aB => exact (by repeat (first | (with_reducible first | exact HB.out | apply below_alloc | apply pw_below_drewN | apply below_drew1) | exact HB.out)))
                        (case aF => exact (fun k_ hk => Kd.fresh' (Kd.R_lt (by (with_reducible repeat (first | apply Kd.R_alloc | apply Kd.R_drewN | apply Kd.R_drew)); exact HO144.out)) k_ hk))
                        (case aO => exact (by (with_reducible repeat (first | apply Kd.R_alloc | apply Kd.R_drewN | apply Kd.R_drew)); exact Kd.R_mono HO_5.out (fun _ hk => hk.2)))
                        (case aS => exact (below_size (by repeat (first | (with_reducible first | exact HB.out | apply below_alloc | apply pw_below_drewN | apply below_drew1) | exact HB.out))))
                        (case aL => have := LMc23.out; omega)
                        intro v146 w27 ho hb hg hat
                        rw [← Ny145.out] at ho
                        have n0_ := Aside0.mk (Kd.R_after (ok := (fun _ => True)) (by (with_reducible repeat (first | apply Kd.R_alloc | apply Kd.R_drewN | apply Kd.R_drew)); exact HO144.out) hg hat)
                        have n1_ := Aside0.mk (hb)
                        have n2_ := Aside0.mk (ho)
                        clear HO144
                        clear HB
                        clear HO_5
                        have HO144 := n0_
                        have HB := n1_
                        have HO147 := n2_
                        clear n0_ n1_ n2_
                        clear ho hb hg hat
                        refine hK.out _ _ trivial (fun hHeld => ?_)
                        clear hK K
                        refine norm_ (a' := ?_) ?_ ?_
                        rotate_left
                        · show Act.put _ (some 36) _ = _
                          simp only [Act.put, List.setIfInBounds_toArray, List.set_cons_zero, List.set_cons_succ, i64_w, i32_w]
                          rfl
                        refine pure_ (i := 13) (N := some 5) (v := ?_) (a' := ?_) #[true, true, true, true, true, true, true, true, true, true, true, true, true, true] rfl rfl (any_of HT_.out (by kernel_rfl)) (fun _ _ _ h => h) (Or.inl ⟨by rfl, ?_⟩) ?_ ?_
                        rotate_left
                        · intro w'
                          go_simp
                          with_reducible rfl
                        rotate_left
                        · simp only [Act.put, List.setIfInBounds_toArray, List.set_cons_zero, List.set_cons_succ, i64_w, i32_w]
                          rfl
                        refine done_ (done_of HT_.out (by kernel_rfl)) ?_
                        try go_wp2
                        go_roundg k1
                        case measure => have := HK1.out; omega
                        case rel => exact ⟨(y145), (wrap64 (x10_1 + 1)), (by first | rfl | (simp; done) | (simp [*]; done)), H', ⟨by have := HK1.out; omega⟩, ⟨by (with_reducible repeat (first | apply Kd.R_alloc | apply Kd.R_drewN | apply Kd.R_drew)); exact Kd.R_mono HO147.out (fun _ hk => trivial)⟩, ⟨by repeat (first | (with_reducible first | exact HB.out | apply below_alloc | apply pw_below_drewN | apply below_drew1) | exact HB.out)⟩⟩
                      · rw [if_neg c23] at H
                        exact absurd H (by simp)
                    · rw [if_neg c21] at H
                      exact absurd H (by simp)
                  · rw [if_neg c20] at H
                    exact absurd H (by simp)
                · rw [if_neg c17] at H
                  exact absurd H (by simp)
              · rw [if_neg c16] at H
                exact absurd H (by simp)
          · rw [if_neg c7] at H
            exact absurd H (by simp)
        · rw [if_neg c6] at H
          exact absurd H (by simp)
      · rw [if_neg c5] at H
        have c5b0 : decide (x10_1 < (a0.size : Int)) = false := decide_eq_false c5
        clear c5
        obtain rfl := Option.some.inj H
        have hcv29 := own_string (P := Tryz.prog) Tryz.underlying70 Tryz.underlying5 Tryz.underlying9 (Kd.own_of_R HO_5.out)
        go_wp2
        go_ret
        exact ⟨by first | rfl | (simp [errW_none, errW_some] <;> rfl) | (simp [*, errW_none, errW_some] <;> rfl), by repeat (first | (with_reducible first | exact HB.out | apply below_alloc | apply pw_below_drewN | apply below_drew1) | exact HB.out)⟩

/-- A state of type 23 at block g of W; what its slices lead to came in by w0. -/
def IsS23 (w0 W : World) (g : Nat) (f0 : ByteArray) (f1 : ByteArray) (f2 : ByteArray) (f3 : ByteArray) (f4 : Bool) (f5 : Bool) (f6 : ByteArray) (f7 : ByteArray) (f8 : ByteArray) (f9 : Bool) (f10 : Bool) (f11 : ByteArray) (f12 : ByteArray) (f13 : ByteArray) : Prop := W.heap[g]? = some (.cells #[.string f0, .string f1, .string f2, .string f3, .bool f4, .bool f5, .string f6, .string f7, .string f8, .bool f9, .bool f10, .string f11, .string f12, .string f13] 23 (0, 0)) ∧ w0.heap.size ≤ g
theorem IsS23.grown {w0 W : World} {g : Nat} {f0 : ByteArray} {f1 : ByteArray} {f2 : ByteArray} {f3 : ByteArray} {f4 : Bool} {f5 : Bool} {f6 : ByteArray} {f7 : ByteArray} {f8 : ByteArray} {f9 : Bool} {f10 : Bool} {f11 : ByteArray} {f12 : ByteArray} {f13 : ByteArray} {W1 : World} {row : Option Nat} (h : IsS23 w0 W g f0 f1 f2 f3 f4 f5 f6 f7 f8 f9 f10 f11 f12 f13) (hw : W.grownBy W1 row) (hne : some g ≠ row) : IsS23 w0 W1 g f0 f1 f2 f3 f4 f5 f6 f7 f8 f9 f10 f11 f12 f13 := by
  obtain ⟨hb, hg⟩ := h
  exact ⟨blk_grown hb hw hne, hg⟩
theorem IsS23.own_neN {w0 W : World} {g : Nat} {f0 : ByteArray} {f1 : ByteArray} {f2 : ByteArray} {f3 : ByteArray} {f4 : Bool} {f5 : Bool} {f6 : ByteArray} {f7 : ByteArray} {f8 : ByteArray} {f9 : Bool} {f10 : Bool} {f11 : ByteArray} {f12 : ByteArray} {f13 : ByteArray} {α : Type} {d : Kd α} {e : Nat} {base : Nat} {ok : Nat → Prop} {v : Value} {xs : List α} (h : IsS23 w0 W g f0 f1 f2 f3 f4 f5 f6 f7 f8 f9 f10 f11 f12 f13) (ho : Kd.N d e W base ok v xs) (ht : e ≠ 23) : some g ≠ v.ownBlock := by
  obtain ⟨hb, hg⟩ := h
  exact Kd.N_ne ho hb ht
theorem IsS23.fresh {w0 W : World} {g : Nat} {f0 : ByteArray} {f1 : ByteArray} {f2 : ByteArray} {f3 : ByteArray} {f4 : Bool} {f5 : Bool} {f6 : ByteArray} {f7 : ByteArray} {f8 : ByteArray} {f9 : Bool} {f10 : Bool} {f11 : ByteArray} {f12 : ByteArray} {f13 : ByteArray} (h : IsS23 w0 W g f0 f1 f2 f3 f4 f5 f6 f7 f8 f9 f10 f11 f12 f13) : ∀ k, W.heap.size ≤ k → k ≠ g := by
  obtain ⟨hb, hg⟩ := h
  exact Kd.freshB hb
theorem IsS23.kept {w0 W : World} {g : Nat} {f0 : ByteArray} {f1 : ByteArray} {f2 : ByteArray} {f3 : ByteArray} {f4 : Bool} {f5 : Bool} {f6 : ByteArray} {f7 : ByteArray} {f8 : ByteArray} {f9 : Bool} {f10 : Bool} {f11 : ByteArray} {f12 : ByteArray} {f13 : ByteArray} {W1 : World} {S : Nat → Prop} (h : IsS23 w0 W g f0 f1 f2 f3 f4 f5 f6 f7 f8 f9 f10 f11 f12 f13) (hk : Kept W W1 S) (hne : ¬ S g) : IsS23 w0 W1 g f0 f1 f2 f3 f4 f5 f6 f7 f8 f9 f10 f11 f12 f13 := by
  obtain ⟨hb, hg⟩ := h
  exact ⟨blk_kept hb hk hne, hg⟩
theorem IsS23.below {w0 W : World} {g : Nat} {f0 : ByteArray} {f1 : ByteArray} {f2 : ByteArray} {f3 : ByteArray} {f4 : Bool} {f5 : Bool} {f6 : ByteArray} {f7 : ByteArray} {f8 : ByteArray} {f9 : Bool} {f10 : Bool} {f11 : ByteArray} {f12 : ByteArray} {f13 : ByteArray} {W1 : World} (h : IsS23 w0 W g f0 f1 f2 f3 f4 f5 f6 f7 f8 f9 f10 f11 f12 f13) (hw : Below W.heap.size W W1) : IsS23 w0 W1 g f0 f1 f2 f3 f4 f5 f6 f7 f8 f9 f10 f11 f12 f13 := h.grown (grown_of_below hw none) (by simp)
theorem IsS23.alloc {w0 W : World} {g : Nat} {f0 : ByteArray} {f1 : ByteArray} {f2 : ByteArray} {f3 : ByteArray} {f4 : Bool} {f5 : Bool} {f6 : ByteArray} {f7 : ByteArray} {f8 : ByteArray} {f9 : Bool} {f10 : Bool} {f11 : ByteArray} {f12 : ByteArray} {f13 : ByteArray} (h : IsS23 w0 W g f0 f1 f2 f3 f4 f5 f6 f7 f8 f9 f10 f11 f12 f13) (o : Obj) : IsS23 w0 (W.alloc o) g f0 f1 f2 f3 f4 f5 f6 f7 f8 f9 f10 f11 f12 f13 := h.below (below_alloc (Below.refl _ _) o)
theorem IsS23.drewN {w0 W : World} {g : Nat} {f0 : ByteArray} {f1 : ByteArray} {f2 : ByteArray} {f3 : ByteArray} {f4 : Bool} {f5 : Bool} {f6 : ByteArray} {f7 : ByteArray} {f8 : ByteArray} {f9 : Bool} {f10 : Bool} {f11 : ByteArray} {f12 : ByteArray} {f13 : ByteArray} (h : IsS23 w0 W g f0 f1 f2 f3 f4 f5 f6 f7 f8 f9 f10 f11 f12 f13) (m : Nat) : IsS23 w0 (W.drewN m) g f0 f1 f2 f3 f4 f5 f6 f7 f8 f9 f10 f11 f12 f13 := h
theorem IsS23.drew {w0 W : World} {g : Nat} {f0 : ByteArray} {f1 : ByteArray} {f2 : ByteArray} {f3 : ByteArray} {f4 : Bool} {f5 : Bool} {f6 : ByteArray} {f7 : ByteArray} {f8 : ByteArray} {f9 : Bool} {f10 : Bool} {f11 : ByteArray} {f12 : ByteArray} {f13 : ByteArray} (h : IsS23 w0 W g f0 f1 f2 f3 f4 f5 f6 f7 f8 f9 f10 f11 f12 f13) : IsS23 w0 W.drew g f0 f1 f2 f3 f4 f5 f6 f7 f8 f9 f10 f11 f12 f13 := h
theorem IsS23.at_ {w0 W : World} {g : Nat} {f0 : ByteArray} {f1 : ByteArray} {f2 : ByteArray} {f3 : ByteArray} {f4 : Bool} {f5 : Bool} {f6 : ByteArray} {f7 : ByteArray} {f8 : ByteArray} {f9 : Bool} {f10 : Bool} {f11 : ByteArray} {f12 : ByteArray} {f13 : ByteArray} {w' : World} {m : Nat} (hq : W.drewN m = w') (h : IsS23 w0 W g f0 f1 f2 f3 f4 f5 f6 f7 f8 f9 f10 f11 f12 f13) : IsS23 w0 w' g f0 f1 f2 f3 f4 f5 f6 f7 f8 f9 f10 f11 f12 f13 := by subst hq; exact IsS23.drewN h m
theorem IsS23.apart {w0 W : World} {g : Nat} {f0 : ByteArray} {f1 : ByteArray} {f2 : ByteArray} {f3 : ByteArray} {f4 : Bool} {f5 : Bool} {f6 : ByteArray} {f7 : ByteArray} {f8 : ByteArray} {f9 : Bool} {f10 : Bool} {f11 : ByteArray} {f12 : ByteArray} {f13 : ByteArray} {α : Type} {d : Kd α} {e : Nat} {base : Nat} {ok : Nat → Prop} {v : Value} {xs : List α} (h : IsS23 w0 W g f0 f1 f2 f3 f4 f5 f6 f7 f8 f9 f10 f11 f12 f13) (ho : d.R e W base ok v xs) (ht : ∀ q, q ∈ e :: d.E → q ≠ 23) : d.R e W base (fun k => ok k ∧ k ≠ g) v xs := by
  obtain ⟨hb, hg⟩ := h
  exact Kd.R_types ho hb ht
theorem IsS23.own_ne {w0 W : World} {g : Nat} {f0 : ByteArray} {f1 : ByteArray} {f2 : ByteArray} {f3 : ByteArray} {f4 : Bool} {f5 : Bool} {f6 : ByteArray} {f7 : ByteArray} {f8 : ByteArray} {f9 : Bool} {f10 : Bool} {f11 : ByteArray} {f12 : ByteArray} {f13 : ByteArray} {α : Type} {d : Kd α} {e : Nat} {base : Nat} {ok : Nat → Prop} {v : Value} {xs : List α} (h : IsS23 w0 W g f0 f1 f2 f3 f4 f5 f6 f7 f8 f9 f10 f11 f12 f13) (ho : d.R e W base ok v xs) (ht : e ≠ 23) : some g ≠ v.ownBlock := by
  obtain ⟨hb, hg⟩ := h
  exact Kd.R_ne ho hb ht
theorem IsS23.apartQ {w0 W : World} {g : Nat} {f0 : ByteArray} {f1 : ByteArray} {f2 : ByteArray} {f3 : ByteArray} {f4 : Bool} {f5 : Bool} {f6 : ByteArray} {f7 : ByteArray} {f8 : ByteArray} {f9 : Bool} {f10 : Bool} {f11 : ByteArray} {f12 : ByteArray} {f13 : ByteArray} {α : Type} {d : Kd α} {e : Nat} {base : Nat} {ok : Nat → Prop} {v : Value} {xs : List α} (h : IsS23 w0 W g f0 f1 f2 f3 f4 f5 f6 f7 f8 f9 f10 f11 f12 f13) (ho : d.Q e W base ok v xs) (ht : ∀ q, q ∈ e :: d.E → q ≠ 23) : d.Q e W base (fun k => ok k ∧ k ≠ g) v xs := by
  obtain ⟨hb, hg⟩ := h
  exact Kd.Q_types ho hb ht
theorem IsS23.own_neQ {w0 W : World} {g : Nat} {f0 : ByteArray} {f1 : ByteArray} {f2 : ByteArray} {f3 : ByteArray} {f4 : Bool} {f5 : Bool} {f6 : ByteArray} {f7 : ByteArray} {f8 : ByteArray} {f9 : Bool} {f10 : Bool} {f11 : ByteArray} {f12 : ByteArray} {f13 : ByteArray} {α : Type} {d : Kd α} {e : Nat} {base : Nat} {ok : Nat → Prop} {v : Value} {xs : List α} (h : IsS23 w0 W g f0 f1 f2 f3 f4 f5 f6 f7 f8 f9 f10 f11 f12 f13) (ho : d.Q e W base ok v xs) (ht : e ≠ 23) : some g ≠ v.ownBlock := by
  obtain ⟨hb, hg⟩ := h
  exact Kd.Q_ne ho hb ht
theorem IsS23.apartS {w0 W : World} {g : Nat} {f0 : ByteArray} {f1 : ByteArray} {f2 : ByteArray} {f3 : ByteArray} {f4 : Bool} {f5 : Bool} {f6 : ByteArray} {f7 : ByteArray} {f8 : ByteArray} {f9 : Bool} {f10 : Bool} {f11 : ByteArray} {f12 : ByteArray} {f13 : ByteArray} {α : Type} {d : Kd α} {e : Nat} {base : Nat} {ok : Nat → Prop} {v : Value} {xs : List α} (h : IsS23 w0 W g f0 f1 f2 f3 f4 f5 f6 f7 f8 f9 f10 f11 f12 f13) (ho : d.S e W base ok v xs) (ht : ∀ q, q ∈ e :: d.E → q ≠ 23) : d.S e W base (fun k => ok k ∧ k ≠ g) v xs := by
  obtain ⟨hb, hg⟩ := h
  exact Kd.S_types ho hb ht
theorem IsS23.own_neS {w0 W : World} {g : Nat} {f0 : ByteArray} {f1 : ByteArray} {f2 : ByteArray} {f3 : ByteArray} {f4 : Bool} {f5 : Bool} {f6 : ByteArray} {f7 : ByteArray} {f8 : ByteArray} {f9 : Bool} {f10 : Bool} {f11 : ByteArray} {f12 : ByteArray} {f13 : ByteArray} {α : Type} {d : Kd α} {e : Nat} {base : Nat} {ok : Nat → Prop} {v : Value} {xs : List α} (h : IsS23 w0 W g f0 f1 f2 f3 f4 f5 f6 f7 f8 f9 f10 f11 f12 f13) (ho : d.S e W base ok v xs) (ht : e ≠ 23) : some g ≠ v.ownBlock := by
  obtain ⟨hb, hg⟩ := h
  exact Kd.S_ne ho hb ht
theorem IsS23.lt {w0 W : World} {g : Nat} {f0 : ByteArray} {f1 : ByteArray} {f2 : ByteArray} {f3 : ByteArray} {f4 : Bool} {f5 : Bool} {f6 : ByteArray} {f7 : ByteArray} {f8 : ByteArray} {f9 : Bool} {f10 : Bool} {f11 : ByteArray} {f12 : ByteArray} {f13 : ByteArray} (h : IsS23 w0 W g f0 f1 f2 f3 f4 f5 f6 f7 f8 f9 f10 f11 f12 f13) : g < W.heap.size := by
  obtain ⟨hb, hg⟩ := h
  exact blk_lt hb
theorem IsS23.ge {w0 W : World} {g : Nat} {f0 : ByteArray} {f1 : ByteArray} {f2 : ByteArray} {f3 : ByteArray} {f4 : Bool} {f5 : Bool} {f6 : ByteArray} {f7 : ByteArray} {f8 : ByteArray} {f9 : Bool} {f10 : Bool} {f11 : ByteArray} {f12 : ByteArray} {f13 : ByteArray} (h : IsS23 w0 W g f0 f1 f2 f3 f4 f5 f6 f7 f8 f9 f10 f11 f12 f13) : w0.heap.size ≤ g := by
  obtain ⟨hb, hg⟩ := h
  exact hg
theorem IsS23.ne_blk {w0 W : World} {g : Nat} {f0 : ByteArray} {f1 : ByteArray} {f2 : ByteArray} {f3 : ByteArray} {f4 : Bool} {f5 : Bool} {f6 : ByteArray} {f7 : ByteArray} {f8 : ByteArray} {f9 : Bool} {f10 : Bool} {f11 : ByteArray} {f12 : ByteArray} {f13 : ByteArray} {a : Nat} {cs : Array Value} {t : TypeId} {fr : Nat × Nat} (h : IsS23 w0 W g f0 f1 f2 f3 f4 f5 f6 f7 f8 f9 f10 f11 f12 f13) (hb2 : W.heap[a]? = some (.cells cs t fr)) (ht : t ≠ 23) : g ≠ a := by
  obtain ⟨hb, hg⟩ := h
  rintro rfl
  rw [hb] at hb2
  injection hb2 with hb2
  injection hb2 with _ ht2
  exact ht ht2.symm
theorem IsS23.far {w0 W : World} {g : Nat} {f0 : ByteArray} {f1 : ByteArray} {f2 : ByteArray} {f3 : ByteArray} {f4 : Bool} {f5 : Bool} {f6 : ByteArray} {f7 : ByteArray} {f8 : ByteArray} {f9 : Bool} {f10 : Bool} {f11 : ByteArray} {f12 : ByteArray} {f13 : ByteArray} {p : Addr} (h : IsS23 w0 W g f0 f1 f2 f3 f4 f5 f6 f7 f8 f9 f10 f11 f12 f13) (hne : g ≠ p.block) (u : Value) : IsS23 w0 (W.setCell p u) g f0 f1 f2 f3 f4 f5 f6 f7 f8 f9 f10 f11 f12 f13 := by
  obtain ⟨hb, hg⟩ := h
  exact ⟨blk_far hb hne u, hg⟩
theorem cellS23_0 {W : World} {g : Nat} {f0 : ByteArray} {f1 : ByteArray} {f2 : ByteArray} {f3 : ByteArray} {f4 : Bool} {f5 : Bool} {f6 : ByteArray} {f7 : ByteArray} {f8 : ByteArray} {f9 : Bool} {f10 : Bool} {f11 : ByteArray} {f12 : ByteArray} {f13 : ByteArray} (h : W.heap[g]? = some (.cells #[.string f0, .string f1, .string f2, .string f3, .bool f4, .bool f5, .string f6, .string f7, .string f8, .bool f9, .bool f10, .string f11, .string f12, .string f13] 23 (0, 0))) : W.cell? ⟨g, 0, none⟩ = some (.string f0) := (blk_cell h 0).trans rfl
theorem IsS23.set_0 {w0 W : World} {g : Nat} {f0 : ByteArray} {f1 : ByteArray} {f2 : ByteArray} {f3 : ByteArray} {f4 : Bool} {f5 : Bool} {f6 : ByteArray} {f7 : ByteArray} {f8 : ByteArray} {f9 : Bool} {f10 : Bool} {f11 : ByteArray} {f12 : ByteArray} {f13 : ByteArray} (h : IsS23 w0 W g f0 f1 f2 f3 f4 f5 f6 f7 f8 f9 f10 f11 f12 f13) (x : ByteArray) : IsS23 w0 (W.setCell ⟨g, 0, none⟩ (.string x)) g x f1 f2 f3 f4 f5 f6 f7 f8 f9 f10 f11 f12 f13 := by
  obtain ⟨hb, hg⟩ := h
  exact ⟨by simpa using blk_set hb 0 (.string x), hg⟩
theorem cellS23_1 {W : World} {g : Nat} {f0 : ByteArray} {f1 : ByteArray} {f2 : ByteArray} {f3 : ByteArray} {f4 : Bool} {f5 : Bool} {f6 : ByteArray} {f7 : ByteArray} {f8 : ByteArray} {f9 : Bool} {f10 : Bool} {f11 : ByteArray} {f12 : ByteArray} {f13 : ByteArray} (h : W.heap[g]? = some (.cells #[.string f0, .string f1, .string f2, .string f3, .bool f4, .bool f5, .string f6, .string f7, .string f8, .bool f9, .bool f10, .string f11, .string f12, .string f13] 23 (0, 0))) : W.cell? ⟨g, 1, none⟩ = some (.string f1) := (blk_cell h 1).trans rfl
theorem IsS23.set_1 {w0 W : World} {g : Nat} {f0 : ByteArray} {f1 : ByteArray} {f2 : ByteArray} {f3 : ByteArray} {f4 : Bool} {f5 : Bool} {f6 : ByteArray} {f7 : ByteArray} {f8 : ByteArray} {f9 : Bool} {f10 : Bool} {f11 : ByteArray} {f12 : ByteArray} {f13 : ByteArray} (h : IsS23 w0 W g f0 f1 f2 f3 f4 f5 f6 f7 f8 f9 f10 f11 f12 f13) (x : ByteArray) : IsS23 w0 (W.setCell ⟨g, 1, none⟩ (.string x)) g f0 x f2 f3 f4 f5 f6 f7 f8 f9 f10 f11 f12 f13 := by
  obtain ⟨hb, hg⟩ := h
  exact ⟨by simpa using blk_set hb 1 (.string x), hg⟩
theorem cellS23_2 {W : World} {g : Nat} {f0 : ByteArray} {f1 : ByteArray} {f2 : ByteArray} {f3 : ByteArray} {f4 : Bool} {f5 : Bool} {f6 : ByteArray} {f7 : ByteArray} {f8 : ByteArray} {f9 : Bool} {f10 : Bool} {f11 : ByteArray} {f12 : ByteArray} {f13 : ByteArray} (h : W.heap[g]? = some (.cells #[.string f0, .string f1, .string f2, .string f3, .bool f4, .bool f5, .string f6, .string f7, .string f8, .bool f9, .bool f10, .string f11, .string f12, .string f13] 23 (0, 0))) : W.cell? ⟨g, 2, none⟩ = some (.string f2) := (blk_cell h 2).trans rfl
theorem IsS23.set_2 {w0 W : World} {g : Nat} {f0 : ByteArray} {f1 : ByteArray} {f2 : ByteArray} {f3 : ByteArray} {f4 : Bool} {f5 : Bool} {f6 : ByteArray} {f7 : ByteArray} {f8 : ByteArray} {f9 : Bool} {f10 : Bool} {f11 : ByteArray} {f12 : ByteArray} {f13 : ByteArray} (h : IsS23 w0 W g f0 f1 f2 f3 f4 f5 f6 f7 f8 f9 f10 f11 f12 f13) (x : ByteArray) : IsS23 w0 (W.setCell ⟨g, 2, none⟩ (.string x)) g f0 f1 x f3 f4 f5 f6 f7 f8 f9 f10 f11 f12 f13 := by
  obtain ⟨hb, hg⟩ := h
  exact ⟨by simpa using blk_set hb 2 (.string x), hg⟩
theorem cellS23_3 {W : World} {g : Nat} {f0 : ByteArray} {f1 : ByteArray} {f2 : ByteArray} {f3 : ByteArray} {f4 : Bool} {f5 : Bool} {f6 : ByteArray} {f7 : ByteArray} {f8 : ByteArray} {f9 : Bool} {f10 : Bool} {f11 : ByteArray} {f12 : ByteArray} {f13 : ByteArray} (h : W.heap[g]? = some (.cells #[.string f0, .string f1, .string f2, .string f3, .bool f4, .bool f5, .string f6, .string f7, .string f8, .bool f9, .bool f10, .string f11, .string f12, .string f13] 23 (0, 0))) : W.cell? ⟨g, 3, none⟩ = some (.string f3) := (blk_cell h 3).trans rfl
theorem IsS23.set_3 {w0 W : World} {g : Nat} {f0 : ByteArray} {f1 : ByteArray} {f2 : ByteArray} {f3 : ByteArray} {f4 : Bool} {f5 : Bool} {f6 : ByteArray} {f7 : ByteArray} {f8 : ByteArray} {f9 : Bool} {f10 : Bool} {f11 : ByteArray} {f12 : ByteArray} {f13 : ByteArray} (h : IsS23 w0 W g f0 f1 f2 f3 f4 f5 f6 f7 f8 f9 f10 f11 f12 f13) (x : ByteArray) : IsS23 w0 (W.setCell ⟨g, 3, none⟩ (.string x)) g f0 f1 f2 x f4 f5 f6 f7 f8 f9 f10 f11 f12 f13 := by
  obtain ⟨hb, hg⟩ := h
  exact ⟨by simpa using blk_set hb 3 (.string x), hg⟩
theorem cellS23_4 {W : World} {g : Nat} {f0 : ByteArray} {f1 : ByteArray} {f2 : ByteArray} {f3 : ByteArray} {f4 : Bool} {f5 : Bool} {f6 : ByteArray} {f7 : ByteArray} {f8 : ByteArray} {f9 : Bool} {f10 : Bool} {f11 : ByteArray} {f12 : ByteArray} {f13 : ByteArray} (h : W.heap[g]? = some (.cells #[.string f0, .string f1, .string f2, .string f3, .bool f4, .bool f5, .string f6, .string f7, .string f8, .bool f9, .bool f10, .string f11, .string f12, .string f13] 23 (0, 0))) : W.cell? ⟨g, 4, none⟩ = some (.bool f4) := (blk_cell h 4).trans rfl
theorem IsS23.set_4 {w0 W : World} {g : Nat} {f0 : ByteArray} {f1 : ByteArray} {f2 : ByteArray} {f3 : ByteArray} {f4 : Bool} {f5 : Bool} {f6 : ByteArray} {f7 : ByteArray} {f8 : ByteArray} {f9 : Bool} {f10 : Bool} {f11 : ByteArray} {f12 : ByteArray} {f13 : ByteArray} (h : IsS23 w0 W g f0 f1 f2 f3 f4 f5 f6 f7 f8 f9 f10 f11 f12 f13) (x : Bool) : IsS23 w0 (W.setCell ⟨g, 4, none⟩ (.bool x)) g f0 f1 f2 f3 x f5 f6 f7 f8 f9 f10 f11 f12 f13 := by
  obtain ⟨hb, hg⟩ := h
  exact ⟨by simpa using blk_set hb 4 (.bool x), hg⟩
theorem cellS23_5 {W : World} {g : Nat} {f0 : ByteArray} {f1 : ByteArray} {f2 : ByteArray} {f3 : ByteArray} {f4 : Bool} {f5 : Bool} {f6 : ByteArray} {f7 : ByteArray} {f8 : ByteArray} {f9 : Bool} {f10 : Bool} {f11 : ByteArray} {f12 : ByteArray} {f13 : ByteArray} (h : W.heap[g]? = some (.cells #[.string f0, .string f1, .string f2, .string f3, .bool f4, .bool f5, .string f6, .string f7, .string f8, .bool f9, .bool f10, .string f11, .string f12, .string f13] 23 (0, 0))) : W.cell? ⟨g, 5, none⟩ = some (.bool f5) := (blk_cell h 5).trans rfl
theorem IsS23.set_5 {w0 W : World} {g : Nat} {f0 : ByteArray} {f1 : ByteArray} {f2 : ByteArray} {f3 : ByteArray} {f4 : Bool} {f5 : Bool} {f6 : ByteArray} {f7 : ByteArray} {f8 : ByteArray} {f9 : Bool} {f10 : Bool} {f11 : ByteArray} {f12 : ByteArray} {f13 : ByteArray} (h : IsS23 w0 W g f0 f1 f2 f3 f4 f5 f6 f7 f8 f9 f10 f11 f12 f13) (x : Bool) : IsS23 w0 (W.setCell ⟨g, 5, none⟩ (.bool x)) g f0 f1 f2 f3 f4 x f6 f7 f8 f9 f10 f11 f12 f13 := by
  obtain ⟨hb, hg⟩ := h
  exact ⟨by simpa using blk_set hb 5 (.bool x), hg⟩
theorem cellS23_6 {W : World} {g : Nat} {f0 : ByteArray} {f1 : ByteArray} {f2 : ByteArray} {f3 : ByteArray} {f4 : Bool} {f5 : Bool} {f6 : ByteArray} {f7 : ByteArray} {f8 : ByteArray} {f9 : Bool} {f10 : Bool} {f11 : ByteArray} {f12 : ByteArray} {f13 : ByteArray} (h : W.heap[g]? = some (.cells #[.string f0, .string f1, .string f2, .string f3, .bool f4, .bool f5, .string f6, .string f7, .string f8, .bool f9, .bool f10, .string f11, .string f12, .string f13] 23 (0, 0))) : W.cell? ⟨g, 6, none⟩ = some (.string f6) := (blk_cell h 6).trans rfl
theorem IsS23.set_6 {w0 W : World} {g : Nat} {f0 : ByteArray} {f1 : ByteArray} {f2 : ByteArray} {f3 : ByteArray} {f4 : Bool} {f5 : Bool} {f6 : ByteArray} {f7 : ByteArray} {f8 : ByteArray} {f9 : Bool} {f10 : Bool} {f11 : ByteArray} {f12 : ByteArray} {f13 : ByteArray} (h : IsS23 w0 W g f0 f1 f2 f3 f4 f5 f6 f7 f8 f9 f10 f11 f12 f13) (x : ByteArray) : IsS23 w0 (W.setCell ⟨g, 6, none⟩ (.string x)) g f0 f1 f2 f3 f4 f5 x f7 f8 f9 f10 f11 f12 f13 := by
  obtain ⟨hb, hg⟩ := h
  exact ⟨by simpa using blk_set hb 6 (.string x), hg⟩
theorem cellS23_7 {W : World} {g : Nat} {f0 : ByteArray} {f1 : ByteArray} {f2 : ByteArray} {f3 : ByteArray} {f4 : Bool} {f5 : Bool} {f6 : ByteArray} {f7 : ByteArray} {f8 : ByteArray} {f9 : Bool} {f10 : Bool} {f11 : ByteArray} {f12 : ByteArray} {f13 : ByteArray} (h : W.heap[g]? = some (.cells #[.string f0, .string f1, .string f2, .string f3, .bool f4, .bool f5, .string f6, .string f7, .string f8, .bool f9, .bool f10, .string f11, .string f12, .string f13] 23 (0, 0))) : W.cell? ⟨g, 7, none⟩ = some (.string f7) := (blk_cell h 7).trans rfl
theorem IsS23.set_7 {w0 W : World} {g : Nat} {f0 : ByteArray} {f1 : ByteArray} {f2 : ByteArray} {f3 : ByteArray} {f4 : Bool} {f5 : Bool} {f6 : ByteArray} {f7 : ByteArray} {f8 : ByteArray} {f9 : Bool} {f10 : Bool} {f11 : ByteArray} {f12 : ByteArray} {f13 : ByteArray} (h : IsS23 w0 W g f0 f1 f2 f3 f4 f5 f6 f7 f8 f9 f10 f11 f12 f13) (x : ByteArray) : IsS23 w0 (W.setCell ⟨g, 7, none⟩ (.string x)) g f0 f1 f2 f3 f4 f5 f6 x f8 f9 f10 f11 f12 f13 := by
  obtain ⟨hb, hg⟩ := h
  exact ⟨by simpa using blk_set hb 7 (.string x), hg⟩
theorem cellS23_8 {W : World} {g : Nat} {f0 : ByteArray} {f1 : ByteArray} {f2 : ByteArray} {f3 : ByteArray} {f4 : Bool} {f5 : Bool} {f6 : ByteArray} {f7 : ByteArray} {f8 : ByteArray} {f9 : Bool} {f10 : Bool} {f11 : ByteArray} {f12 : ByteArray} {f13 : ByteArray} (h : W.heap[g]? = some (.cells #[.string f0, .string f1, .string f2, .string f3, .bool f4, .bool f5, .string f6, .string f7, .string f8, .bool f9, .bool f10, .string f11, .string f12, .string f13] 23 (0, 0))) : W.cell? ⟨g, 8, none⟩ = some (.string f8) := (blk_cell h 8).trans rfl
theorem IsS23.set_8 {w0 W : World} {g : Nat} {f0 : ByteArray} {f1 : ByteArray} {f2 : ByteArray} {f3 : ByteArray} {f4 : Bool} {f5 : Bool} {f6 : ByteArray} {f7 : ByteArray} {f8 : ByteArray} {f9 : Bool} {f10 : Bool} {f11 : ByteArray} {f12 : ByteArray} {f13 : ByteArray} (h : IsS23 w0 W g f0 f1 f2 f3 f4 f5 f6 f7 f8 f9 f10 f11 f12 f13) (x : ByteArray) : IsS23 w0 (W.setCell ⟨g, 8, none⟩ (.string x)) g f0 f1 f2 f3 f4 f5 f6 f7 x f9 f10 f11 f12 f13 := by
  obtain ⟨hb, hg⟩ := h
  exact ⟨by simpa using blk_set hb 8 (.string x), hg⟩
theorem cellS23_9 {W : World} {g : Nat} {f0 : ByteArray} {f1 : ByteArray} {f2 : ByteArray} {f3 : ByteArray} {f4 : Bool} {f5 : Bool} {f6 : ByteArray} {f7 : ByteArray} {f8 : ByteArray} {f9 : Bool} {f10 : Bool} {f11 : ByteArray} {f12 : ByteArray} {f13 : ByteArray} (h : W.heap[g]? = some (.cells #[.string f0, .string f1, .string f2, .string f3, .bool f4, .bool f5, .string f6, .string f7, .string f8, .bool f9, .bool f10, .string f11, .string f12, .string f13] 23 (0, 0))) : W.cell? ⟨g, 9, none⟩ = some (.bool f9) := (blk_cell h 9).trans rfl
theorem IsS23.set_9 {w0 W : World} {g : Nat} {f0 : ByteArray} {f1 : ByteArray} {f2 : ByteArray} {f3 : ByteArray} {f4 : Bool} {f5 : Bool} {f6 : ByteArray} {f7 : ByteArray} {f8 : ByteArray} {f9 : Bool} {f10 : Bool} {f11 : ByteArray} {f12 : ByteArray} {f13 : ByteArray} (h : IsS23 w0 W g f0 f1 f2 f3 f4 f5 f6 f7 f8 f9 f10 f11 f12 f13) (x : Bool) : IsS23 w0 (W.setCell ⟨g, 9, none⟩ (.bool x)) g f0 f1 f2 f3 f4 f5 f6 f7 f8 x f10 f11 f12 f13 := by
  obtain ⟨hb, hg⟩ := h
  exact ⟨by simpa using blk_set hb 9 (.bool x), hg⟩
theorem cellS23_10 {W : World} {g : Nat} {f0 : ByteArray} {f1 : ByteArray} {f2 : ByteArray} {f3 : ByteArray} {f4 : Bool} {f5 : Bool} {f6 : ByteArray} {f7 : ByteArray} {f8 : ByteArray} {f9 : Bool} {f10 : Bool} {f11 : ByteArray} {f12 : ByteArray} {f13 : ByteArray} (h : W.heap[g]? = some (.cells #[.string f0, .string f1, .string f2, .string f3, .bool f4, .bool f5, .string f6, .string f7, .string f8, .bool f9, .bool f10, .string f11, .string f12, .string f13] 23 (0, 0))) : W.cell? ⟨g, 10, none⟩ = some (.bool f10) := (blk_cell h 10).trans rfl
theorem IsS23.set_10 {w0 W : World} {g : Nat} {f0 : ByteArray} {f1 : ByteArray} {f2 : ByteArray} {f3 : ByteArray} {f4 : Bool} {f5 : Bool} {f6 : ByteArray} {f7 : ByteArray} {f8 : ByteArray} {f9 : Bool} {f10 : Bool} {f11 : ByteArray} {f12 : ByteArray} {f13 : ByteArray} (h : IsS23 w0 W g f0 f1 f2 f3 f4 f5 f6 f7 f8 f9 f10 f11 f12 f13) (x : Bool) : IsS23 w0 (W.setCell ⟨g, 10, none⟩ (.bool x)) g f0 f1 f2 f3 f4 f5 f6 f7 f8 f9 x f11 f12 f13 := by
  obtain ⟨hb, hg⟩ := h
  exact ⟨by simpa using blk_set hb 10 (.bool x), hg⟩
theorem cellS23_11 {W : World} {g : Nat} {f0 : ByteArray} {f1 : ByteArray} {f2 : ByteArray} {f3 : ByteArray} {f4 : Bool} {f5 : Bool} {f6 : ByteArray} {f7 : ByteArray} {f8 : ByteArray} {f9 : Bool} {f10 : Bool} {f11 : ByteArray} {f12 : ByteArray} {f13 : ByteArray} (h : W.heap[g]? = some (.cells #[.string f0, .string f1, .string f2, .string f3, .bool f4, .bool f5, .string f6, .string f7, .string f8, .bool f9, .bool f10, .string f11, .string f12, .string f13] 23 (0, 0))) : W.cell? ⟨g, 11, none⟩ = some (.string f11) := (blk_cell h 11).trans rfl
theorem IsS23.set_11 {w0 W : World} {g : Nat} {f0 : ByteArray} {f1 : ByteArray} {f2 : ByteArray} {f3 : ByteArray} {f4 : Bool} {f5 : Bool} {f6 : ByteArray} {f7 : ByteArray} {f8 : ByteArray} {f9 : Bool} {f10 : Bool} {f11 : ByteArray} {f12 : ByteArray} {f13 : ByteArray} (h : IsS23 w0 W g f0 f1 f2 f3 f4 f5 f6 f7 f8 f9 f10 f11 f12 f13) (x : ByteArray) : IsS23 w0 (W.setCell ⟨g, 11, none⟩ (.string x)) g f0 f1 f2 f3 f4 f5 f6 f7 f8 f9 f10 x f12 f13 := by
  obtain ⟨hb, hg⟩ := h
  exact ⟨by simpa using blk_set hb 11 (.string x), hg⟩
theorem cellS23_12 {W : World} {g : Nat} {f0 : ByteArray} {f1 : ByteArray} {f2 : ByteArray} {f3 : ByteArray} {f4 : Bool} {f5 : Bool} {f6 : ByteArray} {f7 : ByteArray} {f8 : ByteArray} {f9 : Bool} {f10 : Bool} {f11 : ByteArray} {f12 : ByteArray} {f13 : ByteArray} (h : W.heap[g]? = some (.cells #[.string f0, .string f1, .string f2, .string f3, .bool f4, .bool f5, .string f6, .string f7, .string f8, .bool f9, .bool f10, .string f11, .string f12, .string f13] 23 (0, 0))) : W.cell? ⟨g, 12, none⟩ = some (.string f12) := (blk_cell h 12).trans rfl
theorem IsS23.set_12 {w0 W : World} {g : Nat} {f0 : ByteArray} {f1 : ByteArray} {f2 : ByteArray} {f3 : ByteArray} {f4 : Bool} {f5 : Bool} {f6 : ByteArray} {f7 : ByteArray} {f8 : ByteArray} {f9 : Bool} {f10 : Bool} {f11 : ByteArray} {f12 : ByteArray} {f13 : ByteArray} (h : IsS23 w0 W g f0 f1 f2 f3 f4 f5 f6 f7 f8 f9 f10 f11 f12 f13) (x : ByteArray) : IsS23 w0 (W.setCell ⟨g, 12, none⟩ (.string x)) g f0 f1 f2 f3 f4 f5 f6 f7 f8 f9 f10 f11 x f13 := by
  obtain ⟨hb, hg⟩ := h
  exact ⟨by simpa using blk_set hb 12 (.string x), hg⟩
theorem cellS23_13 {W : World} {g : Nat} {f0 : ByteArray} {f1 : ByteArray} {f2 : ByteArray} {f3 : ByteArray} {f4 : Bool} {f5 : Bool} {f6 : ByteArray} {f7 : ByteArray} {f8 : ByteArray} {f9 : Bool} {f10 : Bool} {f11 : ByteArray} {f12 : ByteArray} {f13 : ByteArray} (h : W.heap[g]? = some (.cells #[.string f0, .string f1, .string f2, .string f3, .bool f4, .bool f5, .string f6, .string f7, .string f8, .bool f9, .bool f10, .string f11, .string f12, .string f13] 23 (0, 0))) : W.cell? ⟨g, 13, none⟩ = some (.string f13) := (blk_cell h 13).trans rfl
theorem IsS23.set_13 {w0 W : World} {g : Nat} {f0 : ByteArray} {f1 : ByteArray} {f2 : ByteArray} {f3 : ByteArray} {f4 : Bool} {f5 : Bool} {f6 : ByteArray} {f7 : ByteArray} {f8 : ByteArray} {f9 : Bool} {f10 : Bool} {f11 : ByteArray} {f12 : ByteArray} {f13 : ByteArray} (h : IsS23 w0 W g f0 f1 f2 f3 f4 f5 f6 f7 f8 f9 f10 f11 f12 f13) (x : ByteArray) : IsS23 w0 (W.setCell ⟨g, 13, none⟩ (.string x)) g f0 f1 f2 f3 f4 f5 f6 f7 f8 f9 f10 f11 f12 x := by
  obtain ⟨hb, hg⟩ := h
  exact ⟨by simpa using blk_set hb 13 (.string x), hg⟩
theorem IsS23.new (w0 W : World) (f0 : ByteArray) (f1 : ByteArray) (f2 : ByteArray) (f3 : ByteArray) (f4 : Bool) (f5 : Bool) (f6 : ByteArray) (f7 : ByteArray) (f8 : ByteArray) (f9 : Bool) (f10 : Bool) (f11 : ByteArray) (f12 : ByteArray) (f13 : ByteArray) (hB : Below w0.heap.size w0 W) : IsS23 w0 (W.alloc (.cells #[.string f0, .string f1, .string f2, .string f3, .bool f4, .bool f5, .string f6, .string f7, .string f8, .bool f9, .bool f10, .string f11, .string f12, .string f13] 23)) W.heap.size f0 f1 f2 f3 f4 f5 f6 f7 f8 f9 f10 f11 f12 f13 := ⟨by simpa using heap_alloc_new W _, hB.size⟩

/-! ### spec_setPath: function 52 -/
def spec_setPath.f (k : Nat) (s0_0 : ByteArray) (s0_1 : ByteArray) (s0_2 : ByteArray) (s0_3 : ByteArray) (s0_4 : Bool) (s0_5 : Bool) (s0_6 : ByteArray) (s0_7 : ByteArray) (s0_8 : ByteArray) (s0_9 : Bool) (s0_10 : Bool) (s0_11 : ByteArray) (s0_12 : ByteArray) (s0_13 : ByteArray) (a1 : ByteArray) : Option (Bool × ByteArray × ByteArray × ByteArray × ByteArray × Bool × Bool × ByteArray × ByteArray × ByteArray × Bool × Bool × ByteArray × ByteArray × ByteArray) := (spec_Unescape.f k a1 0).bind fun bt148 => ((spec_Escape.f k bt148.1 0).bind fun t150 => (if t150.toList = a1.toList then (some (bt148.2, s0_0, s0_1, s0_2, s0_3, s0_4, s0_5, s0_6, bt148.1, (⟨#[]⟩ : ByteArray), s0_9, s0_10, s0_11, s0_12, s0_13)) else (some (bt148.2, s0_0, s0_1, s0_2, s0_3, s0_4, s0_5, s0_6, bt148.1, a1, s0_9, s0_10, s0_11, s0_12, s0_13))))
theorem spec_setPath.mono : ∀ a0 a1 a2 a3 a4 a5 a6 a7 a8 a9 a10 a11 a12 a13 a14 k, LeO (spec_setPath.f k a0 a1 a2 a3 a4 a5 a6 a7 a8 a9 a10 a11 a12 a13 a14) (spec_setPath.f (k + 1) a0 a1 a2 a3 a4 a5 a6 a7 a8 a9 a10 a11 a12 a13 a14) := by
  intro a0 a1 a2 a3 a4 a5 a6 a7 a8 a9 a10 a11 a12 a13 a14 k
  unfold spec_setPath.f
  repeat' first
      | (with_reducible exact spec_Escape.mono _ _ _)
      | (with_reducible exact spec_Unescape.mono _ _ _)
      | (with_reducible exact LeO.refl _)
      | (with_reducible exact LeO.none _)
      | (with_reducible refine LeO.ite ?_ ?_)
      | (with_reducible refine LeO.bind ?_ (fun _ => ?_))
      | exact spec_Escape.mono _ _ _
      | exact spec_Unescape.mono _ _ _
      | exact LeO.none _
      | refine LeO.ite ?_ ?_
      | refine LeO.bind ?_ (fun _ => ?_)
set_option maxHeartbeats 8000000 in
set_option maxRecDepth 100000 in
theorem spec_setPath.calls (k : Nat) (g : Nat) (s0_0 : ByteArray) (s0_1 : ByteArray) (s0_2 : ByteArray) (s0_3 : ByteArray) (s0_4 : Bool) (s0_5 : Bool) (s0_6 : ByteArray) (s0_7 : ByteArray) (s0_8 : ByteArray) (s0_9 : Bool) (s0_10 : Bool) (s0_11 : ByteArray) (s0_12 : ByteArray) (s0_13 : ByteArray) (a1 : ByteArray) (r1 : Bool) (r2 : ByteArray) (r3 : ByteArray) (r4 : ByteArray) (r5 : ByteArray) (r6 : Bool) (r7 : Bool) (r8 : ByteArray) (r9 : ByteArray) (r10 : ByteArray) (r11 : Bool) (r12 : Bool) (r13 : ByteArray) (r14 : ByteArray) (r15 : ByteArray) (w0 w : World) (hI : IsS23 w0 w g s0_0 s0_1 s0_2 s0_3 s0_4 s0_5 s0_6 s0_7 s0_8 s0_9 s0_10 s0_11 s0_12 s0_13) (hB : Below w0.heap.size w0 w) (h : spec_setPath.f k s0_0 s0_1 s0_2 s0_3 s0_4 s0_5 s0_6 s0_7 s0_8 s0_9 s0_10 s0_11 s0_12 s0_13 a1 = some (r1, r2, r3, r4, r5, r6, r7, r8, r9, r10, r11, r12, r13, r14, r15)) :
    Calls Tryz.prog 52 #[.pointer (some ⟨g, 0, none⟩), .string a1] w fun e w' => e = .returned (.bool r1) ∧ IsS23 w0 w' g r2 r3 r4 r5 r6 r7 r8 r9 r10 r11 r12 r13 r14 r15 ∧ Below w0.heap.size w0 w' ∧ KeepBut w w' g none := by
  have HI0 := Aside0.mk hI
  have HK := Aside0.mk (KeepBut.refl w g none)
  have HL := Aside0.mk hB.size
  clear hI
  have HW0 := Aside0.mk hB.size
  have HB := Aside0.mk hB
  clear hB
  have H : ((spec_Unescape.f k a1 0).bind fun bt148 => ((spec_Escape.f k bt148.1 0).bind fun t150 => (if t150.toList = a1.toList then (some (bt148.2, s0_0, s0_1, s0_2, s0_3, s0_4, s0_5, s0_6, bt148.1, (⟨#[]⟩ : ByteArray), s0_9, s0_10, s0_11, s0_12, s0_13)) else (some (bt148.2, s0_0, s0_1, s0_2, s0_3, s0_4, s0_5, s0_6, bt148.1, a1, s0_9, s0_10, s0_11, s0_12, s0_13))))) = some (r1, r2, r3, r4, r5, r6, r7, r8, r9, r10, r11, r12, r13, r14, r15) := h
  clear h
  replace H := Option.bind_eq_some_iff.mp H
  obtain ⟨⟨t148, t149⟩, A30, H⟩ := H
  replace H : ((spec_Escape.f k t148 0).bind fun t150 => (if t150.toList = a1.toList then (some (t149, s0_0, s0_1, s0_2, s0_3, s0_4, s0_5, s0_6, t148, (⟨#[]⟩ : ByteArray), s0_9, s0_10, s0_11, s0_12, s0_13)) else (some (t149, s0_0, s0_1, s0_2, s0_3, s0_4, s0_5, s0_6, t148, a1, s0_9, s0_10, s0_11, s0_12, s0_13)))) = some (r1, r2, r3, r4, r5, r6, r7, r8, r9, r10, r11, r12, r13, r14, r15) := H
  have A3 := Aside0.mk A30
  clear A30
  replace H := Option.bind_eq_some_iff.mp H
  obtain ⟨t150, A40, H⟩ := H
  replace H : (if t150.toList = a1.toList then (some (t149, s0_0, s0_1, s0_2, s0_3, s0_4, s0_5, s0_6, t148, (⟨#[]⟩ : ByteArray), s0_9, s0_10, s0_11, s0_12, s0_13)) else (some (t149, s0_0, s0_1, s0_2, s0_3, s0_4, s0_5, s0_6, t148, a1, s0_9, s0_10, s0_11, s0_12, s0_13))) = some (r1, r2, r3, r4, r5, r6, r7, r8, r9, r10, r11, r12, r13, r14, r15) := H
  have A4 := Aside0.mk A40
  clear A40
  by_cases c5 : t150.toList = a1.toList
  · rw [if_pos c5] at H
    have c5b0 : (t150.toList == a1.toList) = true := beq_iff_eq.mpr c5
    have c5b1 : (t150.toList != a1.toList) = false := bne_eq_false_iff_eq.mpr c5
    clear c5
    simp only [Option.some.injEq, Prod.mk.injEq] at H
    obtain ⟨rfl, rfl, rfl, rfl, rfl, rfl, rfl, rfl, rfl, rfl, rfl, rfl, rfl, rfl, rfl⟩ := H
    go_enter Tryz.func52, Tryz.ntmps52
    go_wp2_with (first | ((with_reducible refine gate_callee (f := 37) rfl ?_); refine goesL_ (some 9) rfl rfl Tryz.func37 (by kernel_rfl) rfl #[.string a1, .int .i64 0] rfl (by (try simp only [List.map_toArray, List.map_cons, List.map_nil]); first | done | rfl | (simp only [List.length_drop, List.length_take]; rfl)) ?_; (with_reducible refine (spec_Unescape.calls k a1 0 t148 t149 _ A3.out).mono ?_); rintro e w6 ⟨rfl, hb⟩; refine ⟨_, rfl, ?_⟩; have n0_ := Aside0.mk (IsS23.below (by repeat (first | (with_reducible first | exact HI0.out | apply IsS23.alloc | apply IsS23.drewN | apply IsS23.drew | apply IsS23.set_0 | apply IsS23.set_1 | apply IsS23.set_2 | apply IsS23.set_3 | apply IsS23.set_4 | apply IsS23.set_5 | apply IsS23.set_6 | apply IsS23.set_7 | apply IsS23.set_8 | apply IsS23.set_9 | apply IsS23.set_10 | apply IsS23.set_11 | apply IsS23.set_12 | apply IsS23.set_13) | exact HI0.out)) hb); have n1_ := Aside0.mk (KeepBut.trans (by repeat (first | (with_reducible first | exact HK.out | apply KeepBut.set_ | apply keep_drewN | apply keep_drew | apply keep_alloc) | exact HK.out)) (KeepBut.of_below hb g none) (.inl rfl)); have n2_ := Aside0.mk (below_step (by repeat (first | (with_reducible first | exact HB.out | apply below_alloc | apply pw_below_drewN | apply below_drew1 | refine below_set ?_ (IsS23.ge HI0.out)) | exact HB.out)) hb); clear HI0; clear HK; clear HB; have HI0 := n0_; have HK := n1_; have HB := n2_; clear n0_ n1_ n2_; (try clear hb); (try clear hb2); (try clear hk); (try clear hi); obtain ⟨HGz7, hgz7⟩ := HI0.out; have hcz7_0 := cellS23_0 HGz7; have hcz7_1 := cellS23_1 HGz7; have hcz7_2 := cellS23_2 HGz7; have hcz7_3 := cellS23_3 HGz7; have hcz7_4 := cellS23_4 HGz7; have hcz7_5 := cellS23_5 HGz7; have hcz7_6 := cellS23_6 HGz7; have hcz7_7 := cellS23_7 HGz7; have hcz7_8 := cellS23_8 HGz7; have hcz7_9 := cellS23_9 HGz7; have hcz7_10 := cellS23_10 HGz7; have hcz7_11 := cellS23_11 HGz7; have hcz7_12 := cellS23_12 HGz7; have hcz7_13 := cellS23_13 HGz7; have hfz7_0 := blk_frozen HGz7 0; have hfz7_1 := blk_frozen HGz7 1; have hfz7_2 := blk_frozen HGz7 2; have hfz7_3 := blk_frozen HGz7 3; have hfz7_4 := blk_frozen HGz7 4; have hfz7_5 := blk_frozen HGz7 5; have hfz7_6 := blk_frozen HGz7 6; have hfz7_7 := blk_frozen HGz7 7; have hfz7_8 := blk_frozen HGz7 8; have hfz7_9 := blk_frozen HGz7 9; have hfz7_10 := blk_frozen HGz7 10; have hfz7_11 := blk_frozen HGz7 11; have hfz7_12 := blk_frozen HGz7 12; have hfz7_13 := blk_frozen HGz7 13; clear HGz7 hgz7) | ((with_reducible refine gate_callee (f := 38) rfl ?_); refine goesL_ (some 20) rfl rfl Tryz.func38 (by kernel_rfl) rfl #[.string t148, .int .i64 0] rfl (by (try simp only [List.map_toArray, List.map_cons, List.map_nil]); first | done | rfl | (simp only [List.length_drop, List.length_take]; rfl)) ?_; (with_reducible refine (spec_Escape.calls k t148 0 t150 _ A4.out).mono ?_); rintro e w8 ⟨rfl, hb⟩; refine ⟨_, rfl, ?_⟩; have n0_ := Aside0.mk (IsS23.below (show IsS23 w0 ((w6.setCell ⟨g, 7, none⟩ (.string t148)).setCell ⟨g, 8, none⟩ (.string (⟨#[]⟩ : ByteArray))) g s0_0 s0_1 s0_2 s0_3 s0_4 s0_5 s0_6 t148 (⟨#[]⟩ : ByteArray) s0_9 s0_10 s0_11 s0_12 s0_13 from by repeat (first | (with_reducible first | exact HI0.out | apply IsS23.alloc | apply IsS23.drewN | apply IsS23.drew | apply IsS23.set_0 | apply IsS23.set_1 | apply IsS23.set_2 | apply IsS23.set_3 | apply IsS23.set_4 | apply IsS23.set_5 | apply IsS23.set_6 | apply IsS23.set_7 | apply IsS23.set_8 | apply IsS23.set_9 | apply IsS23.set_10 | apply IsS23.set_11 | apply IsS23.set_12 | apply IsS23.set_13) | exact HI0.out)) hb); have n1_ := Aside0.mk (KeepBut.trans (by repeat (first | (with_reducible first | exact HK.out | apply KeepBut.set_ | apply keep_drewN | apply keep_drew | apply keep_alloc) | exact HK.out)) (KeepBut.of_below hb g none) (.inl rfl)); have n2_ := Aside0.mk (below_step (by repeat (first | (with_reducible first | exact HB.out | apply below_alloc | apply pw_below_drewN | apply below_drew1 | refine below_set ?_ (IsS23.ge HI0.out)) | exact HB.out)) hb); clear HI0; clear HK; clear HB; have HI0 := n0_; have HK := n1_; have HB := n2_; clear n0_ n1_ n2_; (try clear hb); (try clear hb2); (try clear hk); (try clear hi)))
    go_ret
    exact ⟨by first | rfl | (simp [errW_none, errW_some] <;> rfl) | (simp [*, errW_none, errW_some] <;> rfl), by repeat (first | (with_reducible first | exact HI0.out | apply IsS23.alloc | apply IsS23.drewN | apply IsS23.drew | apply IsS23.set_0 | apply IsS23.set_1 | apply IsS23.set_2 | apply IsS23.set_3 | apply IsS23.set_4 | apply IsS23.set_5 | apply IsS23.set_6 | apply IsS23.set_7 | apply IsS23.set_8 | apply IsS23.set_9 | apply IsS23.set_10 | apply IsS23.set_11 | apply IsS23.set_12 | apply IsS23.set_13) | exact HI0.out), by repeat (first | (with_reducible first | exact HB.out | apply below_alloc | apply pw_below_drewN | apply below_drew1 | refine below_set ?_ (IsS23.ge HI0.out)) | exact HB.out), by repeat (first | (with_reducible first | exact HK.out | apply KeepBut.set_ | apply keep_drewN | apply keep_drew | apply keep_alloc) | exact HK.out)⟩
  · rw [if_neg c5] at H
    have c5b0 : (t150.toList == a1.toList) = false := beq_eq_false_iff_ne.mpr c5
    have c5b1 : (t150.toList != a1.toList) = true := bne_iff_ne.mpr c5
    simp only [Option.some.injEq, Prod.mk.injEq] at H
    obtain ⟨rfl, rfl, rfl, rfl, rfl, rfl, rfl, rfl, rfl, rfl, rfl, rfl, rfl, rfl, rfl⟩ := H
    go_enter Tryz.func52, Tryz.ntmps52
    go_wp2_with (first | ((with_reducible refine gate_callee (f := 37) rfl ?_); refine goesL_ (some 9) rfl rfl Tryz.func37 (by kernel_rfl) rfl #[.string a1, .int .i64 0] rfl (by (try simp only [List.map_toArray, List.map_cons, List.map_nil]); first | done | rfl | (simp only [List.length_drop, List.length_take]; rfl)) ?_; (with_reducible refine (spec_Unescape.calls k a1 0 t148 t149 _ A3.out).mono ?_); rintro e w9 ⟨rfl, hb⟩; refine ⟨_, rfl, ?_⟩; have n0_ := Aside0.mk (IsS23.below (by repeat (first | (with_reducible first | exact HI0.out | apply IsS23.alloc | apply IsS23.drewN | apply IsS23.drew | apply IsS23.set_0 | apply IsS23.set_1 | apply IsS23.set_2 | apply IsS23.set_3 | apply IsS23.set_4 | apply IsS23.set_5 | apply IsS23.set_6 | apply IsS23.set_7 | apply IsS23.set_8 | apply IsS23.set_9 | apply IsS23.set_10 | apply IsS23.set_11 | apply IsS23.set_12 | apply IsS23.set_13) | exact HI0.out)) hb); have n1_ := Aside0.mk (KeepBut.trans (by repeat (first | (with_reducible first | exact HK.out | apply KeepBut.set_ | apply keep_drewN | apply keep_drew | apply keep_alloc) | exact HK.out)) (KeepBut.of_below hb g none) (.inl rfl)); have n2_ := Aside0.mk (below_step (by repeat (first | (with_reducible first | exact HB.out | apply below_alloc | apply pw_below_drewN | apply below_drew1 | refine below_set ?_ (IsS23.ge HI0.out)) | exact HB.out)) hb); clear HI0; clear HK; clear HB; have HI0 := n0_; have HK := n1_; have HB := n2_; clear n0_ n1_ n2_; (try clear hb); (try clear hb2); (try clear hk); (try clear hi); obtain ⟨HGz10, hgz10⟩ := HI0.out; have hcz10_0 := cellS23_0 HGz10; have hcz10_1 := cellS23_1 HGz10; have hcz10_2 := cellS23_2 HGz10; have hcz10_3 := cellS23_3 HGz10; have hcz10_4 := cellS23_4 HGz10; have hcz10_5 := cellS23_5 HGz10; have hcz10_6 := cellS23_6 HGz10; have hcz10_7 := cellS23_7 HGz10; have hcz10_8 := cellS23_8 HGz10; have hcz10_9 := cellS23_9 HGz10; have hcz10_10 := cellS23_10 HGz10; have hcz10_11 := cellS23_11 HGz10; have hcz10_12 := cellS23_12 HGz10; have hcz10_13 := cellS23_13 HGz10; have hfz10_0 := blk_frozen HGz10 0; have hfz10_1 := blk_frozen HGz10 1; have hfz10_2 := blk_frozen HGz10 2; have hfz10_3 := blk_frozen HGz10 3; have hfz10_4 := blk_frozen HGz10 4; have hfz10_5 := blk_frozen HGz10 5; have hfz10_6 := blk_frozen HGz10 6; have hfz10_7 := blk_frozen HGz10 7; have hfz10_8 := blk_frozen HGz10 8; have hfz10_9 := blk_frozen HGz10 9; have hfz10_10 := blk_frozen HGz10 10; have hfz10_11 := blk_frozen HGz10 11; have hfz10_12 := blk_frozen HGz10 12; have hfz10_13 := blk_frozen HGz10 13; clear HGz10 hgz10) | ((with_reducible refine gate_callee (f := 38) rfl ?_); refine goesL_ (some 20) rfl rfl Tryz.func38 (by kernel_rfl) rfl #[.string t148, .int .i64 0] rfl (by (try simp only [List.map_toArray, List.map_cons, List.map_nil]); first | done | rfl | (simp only [List.length_drop, List.length_take]; rfl)) ?_; (with_reducible refine (spec_Escape.calls k t148 0 t150 _ A4.out).mono ?_); rintro e w11 ⟨rfl, hb⟩; refine ⟨_, rfl, ?_⟩; have n0_ := Aside0.mk (IsS23.below (show IsS23 w0 ((w9.setCell ⟨g, 7, none⟩ (.string t148)).setCell ⟨g, 8, none⟩ (.string (⟨#[]⟩ : ByteArray))) g s0_0 s0_1 s0_2 s0_3 s0_4 s0_5 s0_6 t148 (⟨#[]⟩ : ByteArray) s0_9 s0_10 s0_11 s0_12 s0_13 from by repeat (first | (with_reducible first | exact HI0.out | apply IsS23.alloc | apply IsS23.drewN | apply IsS23.drew | apply IsS23.set_0 | apply IsS23.set_1 | apply IsS23.set_2 | apply IsS23.set_3 | apply IsS23.set_4 | apply IsS23.set_5 | apply IsS23.set_6 | apply IsS23.set_7 | apply IsS23.set_8 | apply IsS23.set_9 | apply IsS23.set_10 | apply IsS23.set_11 | apply IsS23.set_12 | apply IsS23.set_13) | exact HI0.out)) hb); have n1_ := Aside0.mk (KeepBut.trans (by repeat (first | (with_reducible first | exact HK.out | apply KeepBut.set_ | apply keep_drewN | apply keep_drew | apply keep_alloc) | exact HK.out)) (KeepBut.of_below hb g none) (.inl rfl)); have n2_ := Aside0.mk (below_step (by repeat (first | (with_reducible first | exact HB.out | apply below_alloc | apply pw_below_drewN | apply below_drew1 | refine below_set ?_ (IsS23.ge HI0.out)) | exact HB.out)) hb); clear HI0; clear HK; clear HB; have HI0 := n0_; have HK := n1_; have HB := n2_; clear n0_ n1_ n2_; (try clear hb); (try clear hb2); (try clear hk); (try clear hi); obtain ⟨HGz12, hgz12⟩ := HI0.out; have hcz12_0 := cellS23_0 HGz12; have hcz12_1 := cellS23_1 HGz12; have hcz12_2 := cellS23_2 HGz12; have hcz12_3 := cellS23_3 HGz12; have hcz12_4 := cellS23_4 HGz12; have hcz12_5 := cellS23_5 HGz12; have hcz12_6 := cellS23_6 HGz12; have hcz12_7 := cellS23_7 HGz12; have hcz12_8 := cellS23_8 HGz12; have hcz12_9 := cellS23_9 HGz12; have hcz12_10 := cellS23_10 HGz12; have hcz12_11 := cellS23_11 HGz12; have hcz12_12 := cellS23_12 HGz12; have hcz12_13 := cellS23_13 HGz12; have hfz12_0 := blk_frozen HGz12 0; have hfz12_1 := blk_frozen HGz12 1; have hfz12_2 := blk_frozen HGz12 2; have hfz12_3 := blk_frozen HGz12 3; have hfz12_4 := blk_frozen HGz12 4; have hfz12_5 := blk_frozen HGz12 5; have hfz12_6 := blk_frozen HGz12 6; have hfz12_7 := blk_frozen HGz12 7; have hfz12_8 := blk_frozen HGz12 8; have hfz12_9 := blk_frozen HGz12 9; have hfz12_10 := blk_frozen HGz12 10; have hfz12_11 := blk_frozen HGz12 11; have hfz12_12 := blk_frozen HGz12 12; have hfz12_13 := blk_frozen HGz12 13; clear HGz12 hgz12))
    go_ret
    exact ⟨by first | rfl | (simp [errW_none, errW_some] <;> rfl) | (simp [*, errW_none, errW_some] <;> rfl), by repeat (first | (with_reducible first | exact HI0.out | apply IsS23.alloc | apply IsS23.drewN | apply IsS23.drew | apply IsS23.set_0 | apply IsS23.set_1 | apply IsS23.set_2 | apply IsS23.set_3 | apply IsS23.set_4 | apply IsS23.set_5 | apply IsS23.set_6 | apply IsS23.set_7 | apply IsS23.set_8 | apply IsS23.set_9 | apply IsS23.set_10 | apply IsS23.set_11 | apply IsS23.set_12 | apply IsS23.set_13) | exact HI0.out), by repeat (first | (with_reducible first | exact HB.out | apply below_alloc | apply pw_below_drewN | apply below_drew1 | refine below_set ?_ (IsS23.ge HI0.out)) | exact HB.out), by repeat (first | (with_reducible first | exact HK.out | apply KeepBut.set_ | apply keep_drewN | apply keep_drew | apply keep_alloc) | exact HK.out)⟩

/-! ### spec_scheme: function 60 -/
mutual
def spec_scheme.l0 : Nat → ByteArray → Int → Int → Option (ByteArray × ByteArray × Bool)
  | 0, _, _, _ => none
  | k + 1, x0, x8, x9 => if x9 < x8 then (if 0 ≤ x9 then (if x9 < (x0.size : Int) then ((spec_letter.f (bt x0 x9)).bind fun t151 => (if t151 = true then (spec_scheme.l0 k x0 x8 (wrap64 (x9 + 1))) else ((spec_digit.f (bt x0 x9)).bind fun t152 => (if t152 = true then (spec_scheme.j1 k x0 x9 (bt x0 x9) x8 x9 true) else ((spec_among.f k (bt x0 x9) (⟨#[43, 45, 46]⟩ : ByteArray)).bind fun t153 => (spec_scheme.j1 k x0 x9 (bt x0 x9) x8 x9 t153)))))) else (none)) else (none)) else (some ((⟨#[]⟩ : ByteArray), x0, true))
def spec_scheme.j1 : Nat → ByteArray → Int → Int → Int → Int → Bool → Option (ByteArray × ByteArray × Bool)
  | 0, _, _, _, _, _, _ => none
  | k + 1, x0, x5, x6, x8, x9, x19 => if x19 = true then (if x5 = 0 then (some ((⟨#[]⟩ : ByteArray), x0, true)) else (spec_scheme.l0 k x0 x8 (wrap64 (x9 + 1)))) else (if x6 = 58 then (if 0 ≤ x5 then (if x5 ≤ (x0.size : Int) then (if 0 ≤ (wrap64 (x5 + 1)) then (if (wrap64 (x5 + 1)) ≤ (x0.size : Int) then (some (x0.extract 0 (x5 : Int).toNat, x0.extract ((wrap64 (x5 + 1)) : Int).toNat x0.size, decide (x5 > 0))) else (none)) else (none)) else (none)) else (none)) else (some ((⟨#[]⟩ : ByteArray), x0, true)))
end
def spec_scheme.f (k : Nat) (a0 : ByteArray) : Option (ByteArray × ByteArray × Bool) := spec_scheme.l0 k a0 (a0.size : Int) 0
theorem spec_scheme.mono_l : ∀ k, (∀ y0 y1 y2, LeO (spec_scheme.l0 k y0 y1 y2) (spec_scheme.l0 (k + 1) y0 y1 y2)) ∧ (∀ y0 y1 y2 y3 y4 y5, LeO (spec_scheme.j1 k y0 y1 y2 y3 y4 y5) (spec_scheme.j1 (k + 1) y0 y1 y2 y3 y4 y5))
  | 0 => ⟨fun _ _ _ r h => by simp [spec_scheme.l0] at h, fun _ _ _ _ _ _ r h => by simp [spec_scheme.j1] at h⟩
  | k + 1 => by
    obtain ⟨ih0, ih1⟩ := spec_scheme.mono_l k
    refine ⟨?_, ?_⟩
    · intro y0 y1 y2
      unfold spec_scheme.l0
      repeat' first
      | (with_reducible exact ih0 _ _ _)
      | (with_reducible exact ih1 _ _ _ _ _ _)
      | (with_reducible exact spec_among.mono _ _ _)
      | (with_reducible exact LeO.refl _)
      | (with_reducible exact LeO.none _)
      | (with_reducible refine LeO.ite ?_ ?_)
      | (with_reducible refine LeO.bind ?_ (fun _ => ?_))
      | exact ih0 _ _ _
      | exact ih1 _ _ _ _ _ _
      | exact spec_among.mono _ _ _
      | exact LeO.none _
      | refine LeO.ite ?_ ?_
      | refine LeO.bind ?_ (fun _ => ?_)
    · intro y0 y1 y2 y3 y4 y5
      unfold spec_scheme.j1
      repeat' first
      | (with_reducible exact ih0 _ _ _)
      | (with_reducible exact ih1 _ _ _ _ _ _)
      | (with_reducible exact spec_among.mono _ _ _)
      | (with_reducible exact LeO.refl _)
      | (with_reducible exact LeO.none _)
      | (with_reducible refine LeO.ite ?_ ?_)
      | (with_reducible refine LeO.bind ?_ (fun _ => ?_))
      | exact ih0 _ _ _
      | exact ih1 _ _ _ _ _ _
      | exact spec_among.mono _ _ _
      | exact LeO.none _
      | refine LeO.ite ?_ ?_
      | refine LeO.bind ?_ (fun _ => ?_)
theorem spec_scheme.mono : ∀ a0 k, LeO (spec_scheme.f k a0) (spec_scheme.f (k + 1) a0) := by
  intro a0 k
  obtain ⟨ih0, ih1⟩ := spec_scheme.mono_l k
  unfold spec_scheme.f
  repeat' first
      | (with_reducible exact ih0 _ _ _)
      | (with_reducible exact ih1 _ _ _ _ _ _)
      | (with_reducible exact spec_among.mono _ _ _)
      | (with_reducible exact LeO.refl _)
      | (with_reducible exact LeO.none _)
      | (with_reducible refine LeO.ite ?_ ?_)
      | (with_reducible refine LeO.bind ?_ (fun _ => ?_))
      | exact ih0 _ _ _
      | exact ih1 _ _ _ _ _ _
      | exact spec_among.mono _ _ _
      | exact LeO.none _
      | refine LeO.ite ?_ ?_
      | refine LeO.bind ?_ (fun _ => ?_)
set_option maxHeartbeats 8000000 in
set_option maxRecDepth 100000 in
theorem spec_scheme.calls (k : Nat) (a0 : ByteArray) (r1 : ByteArray) (r2 : ByteArray) (r3 : Bool) (w : World) (h : spec_scheme.f k a0 = some (r1, r2, r3)) :
    Calls Tryz.prog 60 #[.string a0] w fun e w' => e = .returned (.tuple #[.string r1, .string r2, .bool r3]) ∧ Drawn0 w w' := by
  have H : (spec_scheme.l0 k a0 (a0.size : Int) 0) = some (r1, r2, r3) := h
  clear h
  have H' := Aside0.mk H
  clear H
  go_enter Tryz.func60, Tryz.ntmps60
  go_wp2
  repeat (go_quiet (fail); try go_wp2)
  go_loopg [9] k (fun kq v9 w' => ∃ (x9_1 : Int), v9 = .int .i64 x9_1 ∧ Aside0 (spec_scheme.l0 kq a0 (a0.size : Int) x9_1 = some (r1, r2, r3)) ∧ Aside0 (kq ≤ k) ∧ Drawn0 w w')
  case atStart => exact ⟨(0), (by first | rfl | (simp; done) | (simp [*]; done)), H', ⟨Nat.le_refl _⟩, by repeat (first | exact Drawn0.refl _ | apply Drawn0.step)⟩
  case round =>
    clear H'
    obtain ⟨x9_1, rfl, HA, HK1, ⟨m1, rfl⟩⟩ := hrel
    cases gk with
    | zero => exact absurd HA.out (by simp [spec_scheme.l0])
    | succ k1 =>
      have H := HA.out
      clear HA
      simp only [spec_scheme.l0] at H
      by_cases c2 : x9_1 < (a0.size : Int)
      · rw [if_pos c2] at H
        have c2b0 : decide (x9_1 < (a0.size : Int)) = true := decide_eq_true c2
        clear c2
        by_cases c3 : 0 ≤ x9_1
        · rw [if_pos c3] at H
          have c3b0 : decide (0 ≤ x9_1) = true := decide_eq_true c3
          clear c3
          by_cases c4 : x9_1 < (a0.size : Int)
          · rw [if_pos c4] at H
            have c4b0 : decide (x9_1 < (a0.size : Int)) = true := decide_eq_true c4
            clear c4
            replace H := Option.bind_eq_some_iff.mp H
            obtain ⟨t151, A60, H⟩ := H
            replace H : (if t151 = true then (spec_scheme.l0 k1 a0 (a0.size : Int) (wrap64 (x9_1 + 1))) else ((spec_digit.f (bt a0 x9_1)).bind fun t152 => (if t152 = true then (spec_scheme.j1 k1 a0 x9_1 (bt a0 x9_1) (a0.size : Int) x9_1 true) else ((spec_among.f k1 (bt a0 x9_1) (⟨#[43, 45, 46]⟩ : ByteArray)).bind fun t153 => (spec_scheme.j1 k1 a0 x9_1 (bt a0 x9_1) (a0.size : Int) x9_1 t153))))) = some (r1, r2, r3) := H
            have A6 := Aside0.mk A60
            clear A60
            by_cases c7 : t151 = true
            · subst c7
              have H1 : (spec_scheme.l0 k1 a0 (a0.size : Int) (wrap64 (x9_1 + 1))) = some (r1, r2, r3) := by rw [if_pos rfl] at H; exact H
              clear H
              have H := H1
              clear H1
              have H' := Aside0.mk H
              clear H
              have p5 : 0 ≤ (x9_1 : Int) := of_decide_eq_true (by first | (with_reducible assumption) | assumption)
              have q5 : x9_1 < (a0.size : Int) := of_decide_eq_true (by first | (with_reducible assumption) | assumption)
              have hx5 := bt_at a0 x9_1
              replace p5 := eq_true p5
              replace q5 := eq_true q5
              go_wp2_with (first | (go_at_call 87; (with_reducible refine (spec_letter.calls (bt a0 x9_1) true _ A6.out).mono ?_); rintro e w' ⟨rfl, ⟨nd, rfl⟩⟩; (try first | exact ⟨rfl, _, World.drewN_drewN _ _ _⟩ | exact ⟨rfl, _, Eq.trans (World.drewN_drewN _ _ _) (congrArg (World.drewN _) (Nat.add_assoc _ _ _))⟩)))
              repeat (go_quiet (first | (go_at_call 87; (with_reducible refine (spec_letter.calls (bt a0 x9_1) true _ A6.out).mono ?_); rintro e w' ⟨rfl, ⟨nd, rfl⟩⟩; (try first | exact ⟨rfl, _, World.drewN_drewN _ _ _⟩ | exact ⟨rfl, _, Eq.trans (World.drewN_drewN _ _ _) (congrArg (World.drewN _) (Nat.add_assoc _ _ _))⟩))); try go_wp2_with (first | (go_at_call 87; (with_reducible refine (spec_letter.calls (bt a0 x9_1) true _ A6.out).mono ?_); rintro e w' ⟨rfl, ⟨nd, rfl⟩⟩; (try first | exact ⟨rfl, _, World.drewN_drewN _ _ _⟩ | exact ⟨rfl, _, Eq.trans (World.drewN_drewN _ _ _) (congrArg (World.drewN _) (Nat.add_assoc _ _ _))⟩))))
              go_roundg k1
              case measure => have := HK1.out; omega
              case rel => exact ⟨(wrap64 (x9_1 + 1)), (by first | rfl | (simp; done) | (simp [*]; done)), H', ⟨by have := HK1.out; omega⟩, by repeat (first | exact Drawn0.refl _ | apply Drawn0.step)⟩
            · replace c7 := Bool.eq_false_iff.mpr c7
              subst c7
              have H1 : ((spec_digit.f (bt a0 x9_1)).bind fun t152 => (if t152 = true then (spec_scheme.j1 k1 a0 x9_1 (bt a0 x9_1) (a0.size : Int) x9_1 true) else ((spec_among.f k1 (bt a0 x9_1) (⟨#[43, 45, 46]⟩ : ByteArray)).bind fun t153 => (spec_scheme.j1 k1 a0 x9_1 (bt a0 x9_1) (a0.size : Int) x9_1 t153)))) = some (r1, r2, r3) := by rw [if_neg (show ¬ (false = true) by decide)] at H; exact H
              clear H
              have H := H1
              clear H1
              have HC8 := Aside0.mk H
              clear H
              have p5 : 0 ≤ (x9_1 : Int) := of_decide_eq_true (by first | (with_reducible assumption) | assumption)
              have q5 : x9_1 < (a0.size : Int) := of_decide_eq_true (by first | (with_reducible assumption) | assumption)
              have hx5 := bt_at a0 x9_1
              replace p5 := eq_true p5
              replace q5 := eq_true q5
              go_upto_region 7 with (first | (go_at_call 87; (with_reducible refine (spec_letter.calls (bt a0 x9_1) false _ A6.out).mono ?_); rintro e w' ⟨rfl, ⟨nd, rfl⟩⟩; (try first | exact ⟨rfl, _, World.drewN_drewN _ _ _⟩ | exact ⟨rfl, _, Eq.trans (World.drewN_drewN _ _ _) (congrArg (World.drewN _) (Nat.add_assoc _ _ _))⟩)))
              repeat (go_quiet (first | (go_at_call 87; (with_reducible refine (spec_letter.calls (bt a0 x9_1) false _ A6.out).mono ?_); rintro e w' ⟨rfl, ⟨nd, rfl⟩⟩; (try first | exact ⟨rfl, _, World.drewN_drewN _ _ _⟩ | exact ⟨rfl, _, Eq.trans (World.drewN_drewN _ _ _) (congrArg (World.drewN _) (Nat.add_assoc _ _ _))⟩))); go_upto_region 7 with (first | (go_at_call 87; (with_reducible refine (spec_letter.calls (bt a0 x9_1) false _ A6.out).mono ?_); rintro e w' ⟨rfl, ⟨nd, rfl⟩⟩; (try first | exact ⟨rfl, _, World.drewN_drewN _ _ _⟩ | exact ⟨rfl, _, Eq.trans (World.drewN_drewN _ _ _) (congrArg (World.drewN _) (Nat.add_assoc _ _ _))⟩))))
              (try simp only [Act.put, List.setIfInBounds_toArray, List.set_cons_zero, List.set_cons_succ])
              go_cut [19] (fun v19 wc => ∃ (kq : Nat) (x19_7 : Bool), v19 = .bool x19_7 ∧ Aside0 (spec_scheme.j1 kq a0 x9_1 (bt a0 x9_1) (a0.size : Int) x9_1 x19_7 = some (r1, r2, r3)) ∧ Aside0 (kq ≤ k1) ∧ Drawn0 w wc)
              case first =>
                have H := HC8.out
                clear HC8
                replace H := Option.bind_eq_some_iff.mp H
                obtain ⟨t152, A90, H⟩ := H
                replace H : (if t152 = true then (spec_scheme.j1 k1 a0 x9_1 (bt a0 x9_1) (a0.size : Int) x9_1 true) else ((spec_among.f k1 (bt a0 x9_1) (⟨#[43, 45, 46]⟩ : ByteArray)).bind fun t153 => (spec_scheme.j1 k1 a0 x9_1 (bt a0 x9_1) (a0.size : Int) x9_1 t153))) = some (r1, r2, r3) := H
                have A9 := Aside0.mk A90
                clear A90
                by_cases c10 : t152 = true
                · subst c10
                  have H1 : (spec_scheme.j1 k1 a0 x9_1 (bt a0 x9_1) (a0.size : Int) x9_1 true) = some (r1, r2, r3) := by rw [if_pos rfl] at H; exact H
                  clear H
                  have H := H1
                  clear H1
                  have H' := Aside0.mk H
                  clear H
                  go_wp2_with (first | (go_at_call 88; (with_reducible refine (spec_digit.calls (bt a0 x9_1) true _ A9.out).mono ?_); rintro e w' ⟨rfl, ⟨nd, rfl⟩⟩; (try first | exact ⟨rfl, _, World.drewN_drewN _ _ _⟩ | exact ⟨rfl, _, Eq.trans (World.drewN_drewN _ _ _) (congrArg (World.drewN _) (Nat.add_assoc _ _ _))⟩)))
                  repeat (go_quiet (first | (go_at_call 88; (with_reducible refine (spec_digit.calls (bt a0 x9_1) true _ A9.out).mono ?_); rintro e w' ⟨rfl, ⟨nd, rfl⟩⟩; (try first | exact ⟨rfl, _, World.drewN_drewN _ _ _⟩ | exact ⟨rfl, _, Eq.trans (World.drewN_drewN _ _ _) (congrArg (World.drewN _) (Nat.add_assoc _ _ _))⟩))); try go_wp2_with (first | (go_at_call 88; (with_reducible refine (spec_digit.calls (bt a0 x9_1) true _ A9.out).mono ?_); rintro e w' ⟨rfl, ⟨nd, rfl⟩⟩; (try first | exact ⟨rfl, _, World.drewN_drewN _ _ _⟩ | exact ⟨rfl, _, Eq.trans (World.drewN_drewN _ _ _) (congrArg (World.drewN _) (Nat.add_assoc _ _ _))⟩))))
                  go_meet
                  case rel => exact ⟨_, (true), (by first | rfl | (simp; done) | (simp [*]; done)), H', ⟨by have := HK1.out; first | omega | exact Nat.le_refl _⟩, by repeat (first | exact Drawn0.refl _ | apply Drawn0.step)⟩
                · replace c10 := Bool.eq_false_iff.mpr c10
                  subst c10
                  have H1 : ((spec_among.f k1 (bt a0 x9_1) (⟨#[43, 45, 46]⟩ : ByteArray)).bind fun t153 => (spec_scheme.j1 k1 a0 x9_1 (bt a0 x9_1) (a0.size : Int) x9_1 t153)) = some (r1, r2, r3) := by rw [if_neg (show ¬ (false = true) by decide)] at H; exact H
                  clear H
                  have H := H1
                  clear H1
                  replace H := Option.bind_eq_some_iff.mp H
                  obtain ⟨t153, A110, H⟩ := H
                  replace H : (spec_scheme.j1 k1 a0 x9_1 (bt a0 x9_1) (a0.size : Int) x9_1 t153) = some (r1, r2, r3) := H
                  have A11 := Aside0.mk A110
                  clear A110
                  have H' := Aside0.mk H
                  clear H
                  go_wp2_with (first | (go_at_call 88; (with_reducible refine (spec_digit.calls (bt a0 x9_1) false _ A9.out).mono ?_); rintro e w' ⟨rfl, ⟨nd, rfl⟩⟩; (try first | exact ⟨rfl, _, World.drewN_drewN _ _ _⟩ | exact ⟨rfl, _, Eq.trans (World.drewN_drewN _ _ _) (congrArg (World.drewN _) (Nat.add_assoc _ _ _))⟩)) | (go_at_call 49; (with_reducible refine (spec_among.calls k1 (bt a0 x9_1) (⟨#[43, 45, 46]⟩ : ByteArray) t153 _ A11.out).mono ?_); rintro e w' ⟨rfl, ⟨nd, rfl⟩⟩; (try first | exact ⟨rfl, _, World.drewN_drewN _ _ _⟩ | exact ⟨rfl, _, Eq.trans (World.drewN_drewN _ _ _) (congrArg (World.drewN _) (Nat.add_assoc _ _ _))⟩)))
                  repeat (go_quiet (first | (go_at_call 88; (with_reducible refine (spec_digit.calls (bt a0 x9_1) false _ A9.out).mono ?_); rintro e w' ⟨rfl, ⟨nd, rfl⟩⟩; (try first | exact ⟨rfl, _, World.drewN_drewN _ _ _⟩ | exact ⟨rfl, _, Eq.trans (World.drewN_drewN _ _ _) (congrArg (World.drewN _) (Nat.add_assoc _ _ _))⟩)) | (go_at_call 49; (with_reducible refine (spec_among.calls k1 (bt a0 x9_1) (⟨#[43, 45, 46]⟩ : ByteArray) t153 _ A11.out).mono ?_); rintro e w' ⟨rfl, ⟨nd, rfl⟩⟩; (try first | exact ⟨rfl, _, World.drewN_drewN _ _ _⟩ | exact ⟨rfl, _, Eq.trans (World.drewN_drewN _ _ _) (congrArg (World.drewN _) (Nat.add_assoc _ _ _))⟩))); try go_wp2_with (first | (go_at_call 88; (with_reducible refine (spec_digit.calls (bt a0 x9_1) false _ A9.out).mono ?_); rintro e w' ⟨rfl, ⟨nd, rfl⟩⟩; (try first | exact ⟨rfl, _, World.drewN_drewN _ _ _⟩ | exact ⟨rfl, _, Eq.trans (World.drewN_drewN _ _ _) (congrArg (World.drewN _) (Nat.add_assoc _ _ _))⟩)) | (go_at_call 49; (with_reducible refine (spec_among.calls k1 (bt a0 x9_1) (⟨#[43, 45, 46]⟩ : ByteArray) t153 _ A11.out).mono ?_); rintro e w' ⟨rfl, ⟨nd, rfl⟩⟩; (try first | exact ⟨rfl, _, World.drewN_drewN _ _ _⟩ | exact ⟨rfl, _, Eq.trans (World.drewN_drewN _ _ _) (congrArg (World.drewN _) (Nat.add_assoc _ _ _))⟩))))
                  go_meet
                  case rel => exact ⟨_, (t153), (by first | rfl | (simp; done) | (simp [*]; done)), H', ⟨by have := HK1.out; first | omega | exact Nat.le_refl _⟩, by repeat (first | exact Drawn0.refl _ | apply Drawn0.step)⟩
              case rest =>
                clear HC8
                try clear c1
                try clear c2
                try clear c2b0
                try clear p2
                try clear c3
                try clear c3b0
                try clear c4
                try clear c4b0
                try clear p5
                try clear q5
                try clear hx5
                try clear c6
                try clear p6
                try clear c7
                try clear c10
                try clear p5
                try clear q5
                obtain ⟨kq, x19_7, rfl, HA, HJ7, ⟨mc7, rfl⟩⟩ := hcut
                cases kq with
                | zero => exact absurd HA.out (by simp [spec_scheme.j1])
                | succ kj7 =>
                  have H := HA.out
                  clear HA
                  simp only [spec_scheme.j1] at H
                  by_cases c12 : x19_7 = true
                  · subst c12
                    have H1 : (if x9_1 = 0 then (some ((⟨#[]⟩ : ByteArray), a0, true)) else (spec_scheme.l0 kj7 a0 (a0.size : Int) (wrap64 (x9_1 + 1)))) = some (r1, r2, r3) := by rw [if_pos rfl] at H; exact H
                    clear H
                    have H := H1
                    clear H1
                    by_cases c13 : x9_1 = 0
                    · rw [if_pos c13] at H
                      have c13b0 : (x9_1 == 0) = true := beq_iff_eq.mpr c13
                      have c13b1 : (x9_1 != 0) = false := bne_eq_false_iff_eq.mpr c13
                      clear c13
                      simp only [Option.some.injEq, Prod.mk.injEq] at H
                      obtain ⟨rfl, rfl, rfl⟩ := H
                      go_wp2
                      repeat (go_quiet (fail); try go_wp2)
                      go_ret3
                      exact ⟨by first | rfl | (simp; done) | (simp [*]; done), by repeat (first | exact Drawn0.refl _ | apply Drawn0.step)⟩
                    · rw [if_neg c13] at H
                      have c13b0 : (x9_1 == 0) = false := beq_eq_false_iff_ne.mpr c13
                      have c13b1 : (x9_1 != 0) = true := bne_iff_ne.mpr c13
                      have H' := Aside0.mk H
                      clear H
                      go_wp2
                      repeat (go_quiet (fail); try go_wp2)
                      go_roundg kj7
                      case measure => have := HK1.out; have := HJ7.out; omega
                      case rel => exact ⟨(wrap64 (x9_1 + 1)), (by first | rfl | (simp; done) | (simp [*]; done)), H', ⟨by have := HK1.out; have := HJ7.out; omega⟩, by repeat (first | exact Drawn0.refl _ | apply Drawn0.step)⟩
                  · replace c12 := Bool.eq_false_iff.mpr c12
                    subst c12
                    have H1 : (if (bt a0 x9_1) = 58 then (if 0 ≤ x9_1 then (if x9_1 ≤ (a0.size : Int) then (if 0 ≤ (wrap64 (x9_1 + 1)) then (if (wrap64 (x9_1 + 1)) ≤ (a0.size : Int) then (some (a0.extract 0 (x9_1 : Int).toNat, a0.extract ((wrap64 (x9_1 + 1)) : Int).toNat a0.size, decide (x9_1 > 0))) else (none)) else (none)) else (none)) else (none)) else (some ((⟨#[]⟩ : ByteArray), a0, true))) = some (r1, r2, r3) := by rw [if_neg (show ¬ (false = true) by decide)] at H; exact H
                    clear H
                    have H := H1
                    clear H1
                    by_cases c14 : (bt a0 x9_1) = 58
                    · rw [if_pos c14] at H
                      have c14b0 : ((bt a0 x9_1) == 58) = true := beq_iff_eq.mpr c14
                      have c14b1 : ((bt a0 x9_1) != 58) = false := bne_eq_false_iff_eq.mpr c14
                      clear c14
                      by_cases c15 : 0 ≤ x9_1
                      · rw [if_pos c15] at H
                        have c15b0 := eq_true c15
                        have c15b1 : decide (0 ≤ x9_1) = true := decide_eq_true c15
                        clear c15
                        by_cases c16 : x9_1 ≤ (a0.size : Int)
                        · rw [if_pos c16] at H
                          have c16b0 := eq_true c16
                          have c16b1 : decide (x9_1 ≤ (a0.size : Int)) = true := decide_eq_true c16
                          clear c16
                          obtain ⟨ji17, hji17⟩ : ∃ j_ : Int, (wrap64 (x9_1 + 1)) = j_ := ⟨_, rfl⟩
                          replace H : (if 0 ≤ (ji17) then (if (ji17) ≤ (a0.size : Int) then (some (a0.extract 0 (x9_1 : Int).toNat, a0.extract ((ji17) : Int).toNat a0.size, decide (x9_1 > 0))) else (none)) else (none)) = some (r1, r2, r3) := by first | (rw [hji17] at H; exact H) | (simp only [hji17] at H ⊢; exact H)
                          have hji17w : (IntKind.i64.wrap (x9_1 + 1)) = ji17 := (i64_w _).trans hji17
                          by_cases c18 : 0 ≤ (ji17)
                          · rw [if_pos c18] at H
                            have c18b0 := eq_true c18
                            have c18b1 : decide (0 ≤ (ji17)) = true := decide_eq_true c18
                            clear c18
                            by_cases c19 : (ji17) ≤ (a0.size : Int)
                            · rw [if_pos c19] at H
                              have c19b0 := eq_true c19
                              have c19b1 : decide ((ji17) ≤ (a0.size : Int)) = true := decide_eq_true c19
                              clear c19
                              simp only [Option.some.injEq, Prod.mk.injEq] at H
                              obtain ⟨rfl, rfl, rfl⟩ := H
                              go_wp2
                              repeat (go_quiet (fail); try go_wp2)
                              go_ret3
                              exact ⟨by first | rfl | (simp; done) | (simp only [← hji17] <;> (first | rfl | simp)) | (simp [*]; done), by repeat (first | exact Drawn0.refl _ | apply Drawn0.step)⟩
                            · rw [if_neg c19] at H
                              exact absurd H (by simp)
                          · rw [if_neg c18] at H
                            exact absurd H (by simp)
                        · rw [if_neg c16] at H
                          exact absurd H (by simp)
                      · rw [if_neg c15] at H
                        exact absurd H (by simp)
                    · rw [if_neg c14] at H
                      have c14b0 : ((bt a0 x9_1) == 58) = false := beq_eq_false_iff_ne.mpr c14
                      have c14b1 : ((bt a0 x9_1) != 58) = true := bne_iff_ne.mpr c14
                      simp only [Option.some.injEq, Prod.mk.injEq] at H
                      obtain ⟨rfl, rfl, rfl⟩ := H
                      go_wp2
                      repeat (go_quiet (fail); try go_wp2)
                      go_ret3
                      exact ⟨by first | rfl | (simp; done) | (simp [*]; done), by repeat (first | exact Drawn0.refl _ | apply Drawn0.step)⟩
          · rw [if_neg c4] at H
            exact absurd H (by simp)
        · rw [if_neg c3] at H
          exact absurd H (by simp)
      · rw [if_neg c2] at H
        have c2b0 : decide (x9_1 < (a0.size : Int)) = false := decide_eq_false c2
        clear c2
        simp only [Option.some.injEq, Prod.mk.injEq] at H
        obtain ⟨rfl, rfl, rfl⟩ := H
        go_wp2
        repeat (go_quiet (fail); try go_wp2)
        go_ret3
        exact ⟨by first | rfl | (simp; done) | (simp [*]; done), by repeat (first | exact Drawn0.refl _ | apply Drawn0.step)⟩

end Go.Proofs.YtphkohpphdcjhaaGreatDoor.PFnJoinText
