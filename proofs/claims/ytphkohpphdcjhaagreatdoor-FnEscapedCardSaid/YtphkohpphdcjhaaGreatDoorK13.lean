/- Escapes, the request and its sign, of both; a reference that comes in. -/
import Derived.Test.YtphkohpphdcjhaaGreatDoorK12
import Derived.Test.YtphkohpphdcjhaaGreatDoorK8
import Derived.Test.YtphkohpphdcjhaaGreatDoorK11
import Derived.BigQuiet
import Derived.Deep.Modes
namespace Go.Proofs.YtphkohpphdcjhaaGreatDoor
open Go.RowKit Go.Proofs.YtphkohpphdcjhaaGreatDoorW.PrintWords
open U (L S)

set_option maxRecDepth 100000 in
set_option maxHeartbeats 3200000 in
theorem c_kept (s : ByteArray) (w : Nat) (m : Int) (P : Bool) (W : World) (hs : Sm s) (hm : m = (w : Int)) (H : Hid (U.kept w (L s) = P)) :
    Calls Tryz.prog 45 #[.string s, .int .i64 m] W fun e w' => e = .returned (.bool P) ∧ Drawn0 W w' := by
  have HM := Lib.hid hm
  clear hm
  go_enter Tryz.func45, Tryz.ntmps45
  go_wp2_with fail
  go_loopw [5, 8] (fun _ i w' => ∃ k n : Nat, k ≤ s.size ∧ i = .int .i64 k ∧ w' = W.drewN n ∧ Hid (((L s).drop k).all (U.kept1 w) = P)) (fun _ i _ => s.size - (intOf i).toNat)
  case atStart => exact ⟨0, 0, Nat.zero_le _, rfl, rfl, H⟩
  case round =>
    clear H
    obtain ⟨k, n, hk, rfl, rfl, HK⟩ := hrel
    by_cases hlt : k < s.size
    · obtain ⟨a1, HA1⟩ : ∃ b, Hid (U.among (s[k]'hlt) (L ⟨#[33, 36, 38, 39, 40, 41, 42, 43, 44, 59, 61, 58, 64, 91, 93, 37]⟩) = b) := ⟨_, rfl⟩
      obtain ⟨a2, HA2⟩ : ∃ b, Hid (U.free w (s[k]'hlt) = b) := ⟨_, rfl⟩
      have HU : Hid (U.kept1 w (s[k]'hlt) = (a1 || a2)) := by rw [← HA1.out, ← HA2.out]; rfl
      go_wp2_with fail
      refine (c_among ⟨#[33, 36, 38, 39, 40, 41, 42, 43, 44, 59, 61, 58, 64, 91, 93, 37]⟩ (s[k]'hlt) _ a1 _ (by decide) rfl HA1).mono ?_
      rintro e w1 ⟨rfl, ⟨n1, rfl⟩⟩
      cases a1
      · go_wp2_with fail
        refine (c_free (s[k]'hlt) w _ _ a2 _ rfl HM.out HA2).mono ?_
        rintro e w1 ⟨rfl, ⟨n2, rfl⟩⟩
        cases a2
        · have hP : P = false := HAll HK hlt (b := false) HU.out
          subst hP
          go_wp2_with fail
          go_ret
          exact ⟨rfl, ⟨⟨_, rfl⟩⟩⟩
        · have HP : Hid (((L s).drop (k + 1)).all (U.kept1 w) = P) := HAll HK hlt (b := true) HU.out
          go_wp2_with fail
          go_roundw
          case rel => exact ⟨k + 1, _, by omega, by go_num, rfl, HP⟩
          case measure => simp [intOf]; omega
      · have HP : Hid (((L s).drop (k + 1)).all (U.kept1 w) = P) := HAll HK hlt (b := true) HU.out
        go_wp2_with fail
        go_roundw
        case rel => exact ⟨k + 1, _, by omega, by go_num, rfl, HP⟩
        case measure => simp [intOf]; omega
    · have hP : P = true := by rw [← HK.out]; exact all_end _ s k hlt
      subst hP
      go_wp2_with fail
      go_ret
      exact ⟨rfl, ⟨⟨_, rfl⟩⟩⟩

set_option maxRecDepth 100000 in
set_option maxHeartbeats 3200000 in
theorem c_escPath (W : World) (v : V) (hv : Sm v.path ∧ Sm v.rawPath) :
    Calls Tryz.prog 19 #[v.val] W fun e w' => e = .returned (.string (S (U.escPath v))) ∧ Below W.heap.size W w' := by
  obtain ⟨r, HR⟩ : ∃ r, Hid (S (U.escPath v) = r) := ⟨_, rfl⟩
  rw [HR.out]
  obtain ⟨hsp, hsr⟩ := hv
  have hB : Below W.heap.size W (W.alloc (.cells v.cells 23)) := (Below.refl _ _).alloc (Nat.le_refl _) _
  have hI : IsV (W.alloc (.cells v.cells 23)) W.heap.size v := heap_new _ _ _ rfl
  have HB := Lib.hid hB
  have HI := Lib.hid hI
  go_enter Tryz.func19, Tryz.ntmps19
  go_upto_region 1 with fail
  change Code.wp _ _ _ _ (W.alloc (.cells v.cells 23))
  obtain ⟨W1, hW1⟩ : ∃ x, W.alloc (.cells v.cells 23) = x := ⟨_, rfl⟩
  rw [hW1] at HB HI ⊢
  obtain ⟨g, hg⟩ : ∃ g, W.heap.size = g := ⟨_, rfl⟩
  have HG := Lib.hid hg
  rw [hg] at HI ⊢
  clear hW1 hB hI hg
  have c4 : ∀ n, (W1.drewN n).cell? ⟨g, 7, none⟩ = some (.string v.path) := fun n => cell_at (w := W1.drewN n) HI.out rfl
  have c7 : ∀ n, (W1.drewN n).cell? ⟨g, 8, none⟩ = some (.string v.rawPath) := fun n => cell_at (w := W1.drewN n) HI.out rfl
  have c40 : W1.cell? ⟨g, 7, none⟩ = some (.string v.path) := cell_at HI.out rfl
  have c70 : W1.cell? ⟨g, 8, none⟩ = some (.string v.rawPath) := cell_at HI.out rfl
  obtain ⟨raw, HRA⟩ : ∃ x, Hid (v.rawPath = x) := ⟨_, rfl⟩
  obtain ⟨pa, HPA⟩ : ∃ x, Hid (v.path = x) := ⟨_, rfl⟩
  have HV : Hid (S (if U.kept? 0 (L raw) (L pa) then L raw else if L pa = [42] then [42] else U.esc 0 (L pa)) = r) := by
    rw [← HR.out, ← HRA.out, ← HPA.out]
    exact Lib.hid rfl
  rw [HPA.out] at c4 hsp c40
  rw [HRA.out] at c7 hsr c70
  obtain ⟨o, HO⟩ : ∃ o, Hid (U.unesc 0 (L raw) = o) := ⟨_, rfl⟩
  obtain ⟨k, HK⟩ : ∃ o, Hid (U.kept 0 (L raw) = o) := ⟨_, rfl⟩
  clear HR HRA HPA
  by_cases hA : U.kept? 0 (L raw) (L pa) = true
  · have hr : r = raw := by rw [← HV.out, if_pos hA, U.S_L]
    subst hr
    simp only [U.kept?, Bool.and_eq_true, beq_iff_eq, Bool.not_eq_true'] at hA
    obtain ⟨⟨h1, h2⟩, h3⟩ := hA
    have hne : (r.toList == []) = false := by rw [U.toList_L]; cases h : L r with
      | nil => rw [h] at h1; simp at h1
      | cons a b => rfl
    obtain rfl : k = true := by rw [← HK.out, h2]
    obtain rfl : o = some (L pa) := by rw [← HO.out, h3]
    clear h1 h2 h3
    go_wp2_with fail
    refine (c_kept r 0 0 true _ hsr rfl HK).mono ?_
    rintro e w1 ⟨rfl, ⟨n1, rfl⟩⟩
    go_wp2_with fail
    refine (c_Unescape r pa 0 0 _ hsr rfl HO).mono ?_
    rintro e w1 ⟨rfl, b1⟩
    have hI1 := (HI.out.drewN n1).keep b1
    have hb : w1.cell? ⟨g, 7, none⟩ = some (.string pa) := (b1.cell (p := ⟨g, 7, none⟩) (heap_lt HI.out)).trans (c4 n1)
    have hb7 : w1.cell? ⟨g, 8, none⟩ = some (.string r) := (b1.cell (p := ⟨g, 8, none⟩) (heap_lt HI.out)).trans (c7 n1)
    have B1 : Hid (Below W.heap.size W w1) := Lib.hid ((below_n HB.out n1).trans (b1.mono HB.out.size))
    clear b1 c4 c7 c40 c70 hI1
    go_wp2_with fail
    go_ret
    exact ⟨rfl, B1.out⟩
  · have HV2 : Hid (S (if L pa = [42] then [42] else U.esc 0 (L pa)) = r) := by rw [← HV.out, if_neg hA]; exact Lib.hid rfl
    obtain ⟨st, hst⟩ : ∃ b, (pa.toList == [42]) = b := ⟨_, rfl⟩
    have HE : Hid (if st = true then r = ⟨#[42]⟩ else S (U.esc 0 (L pa)) = r) := by
      rw [← hst]
      by_cases h : L pa = [42]
      · rw [if_pos (by rw [U.toList_L]; simpa using h), ← HV2.out, if_pos h]
        rfl
      · rw [if_neg (by rw [U.toList_L]; simpa using h), ← HV2.out, if_neg h]
        rfl
    clear HV HV2
    by_cases hr : L raw = []
    · have h1 : raw.toList = [] := by rw [U.toList_L]; exact hr
      clear hr hA HO HK
      cases st
      · have h2 : U.esc 0 (L pa) = L r := by have := HE.out; rw [if_neg (by decide)] at this; rw [← this]; rfl
        have H2 := Lib.hid h2
        clear h2 HE
        go_wp2_with fail
        refine (c_Escape pa r 0 0 _ hsp rfl H2).mono ?_
        rintro e w2 ⟨rfl, b2⟩
        go_wp2_with fail
        go_ret
        exact ⟨rfl, HB.out.trans (b2.mono HB.out.size)⟩
      · have h2 : r = ⟨#[42]⟩ := by have := HE.out; simpa using this
        have H2 := Lib.hid h2
        clear h2 HE
        go_wp2_with fail
        go_ret
        rw [H2.out]
        exact ⟨rfl, HB.out⟩
    have h1 : (raw.toList == []) = false := by rw [U.toList_L]; simpa using hr
    have HNE : Hid (¬ L raw = []) := Lib.hid hr
    clear hr
    cases k
    · clear hA HO
      cases st
      · have h2 : U.esc 0 (L pa) = L r := by have := HE.out; rw [if_neg (by decide)] at this; rw [← this]; rfl
        have H2 := Lib.hid h2
        clear h2 HE
        go_wp2_with fail
        refine (c_kept raw 0 0 false _ hsr rfl HK).mono ?_
        rintro e w1 ⟨rfl, ⟨n1, rfl⟩⟩
        go_wp2_with fail
        refine (c_Escape pa r 0 0 _ hsp rfl H2).mono ?_
        rintro e w2 ⟨rfl, b2⟩
        go_wp2_with fail
        go_ret
        exact ⟨rfl, (below_n HB.out n1).trans (b2.mono HB.out.size)⟩
      · have h2 : r = ⟨#[42]⟩ := by have := HE.out; simpa using this
        have H2 := Lib.hid h2
        clear h2 HE
        go_wp2_with fail
        refine (c_kept raw 0 0 false _ hsr rfl HK).mono ?_
        rintro e w1 ⟨rfl, ⟨n1, rfl⟩⟩
        go_wp2_with fail
        go_ret
        rw [H2.out]
        exact ⟨rfl, below_n HB.out n1⟩
    cases o with
    | none =>
      clear hA
      cases st
      · have h2 : U.esc 0 (L pa) = L r := by have := HE.out; rw [if_neg (by decide)] at this; rw [← this]; rfl
        have H2 := Lib.hid h2
        clear h2 HE
        go_wp2_with fail
        refine (c_kept raw 0 0 true _ hsr rfl HK).mono ?_
        rintro e w1 ⟨rfl, ⟨n1, rfl⟩⟩
        go_wp2_with fail
        refine (c_Unescape_no raw 0 0 _ hsr rfl HO).mono ?_
        rintro e w1 ⟨rfl, b1⟩
        have hb : w1.cell? ⟨g, 7, none⟩ = some (.string pa) := (b1.cell (p := ⟨g, 7, none⟩) (heap_lt HI.out)).trans (c4 n1)
        have B1 : Hid (Below W.heap.size W w1) := Lib.hid ((below_n HB.out n1).trans (b1.mono HB.out.size))
        clear b1 c4 c7 c40 c70
        go_wp2_with fail
        refine (c_Escape pa r 0 0 _ hsp rfl H2).mono ?_
        rintro e w2 ⟨rfl, b2⟩
        go_wp2_with fail
        go_ret
        exact ⟨rfl, B1.out.trans (b2.mono B1.out.size)⟩
      · have h2 : r = ⟨#[42]⟩ := by have := HE.out; simpa using this
        have H2 := Lib.hid h2
        clear h2 HE
        go_wp2_with fail
        refine (c_kept raw 0 0 true _ hsr rfl HK).mono ?_
        rintro e w1 ⟨rfl, ⟨n1, rfl⟩⟩
        go_wp2_with fail
        refine (c_Unescape_no raw 0 0 _ hsr rfl HO).mono ?_
        rintro e w1 ⟨rfl, b1⟩
        have hb : w1.cell? ⟨g, 7, none⟩ = some (.string pa) := (b1.cell (p := ⟨g, 7, none⟩) (heap_lt HI.out)).trans (c4 n1)
        have B1 : Hid (Below W.heap.size W w1) := Lib.hid ((below_n HB.out n1).trans (b1.mono HB.out.size))
        clear b1 c4 c7 c40 c70
        go_wp2_with fail
        go_ret
        rw [H2.out]
        exact ⟨rfl, B1.out⟩
    | some p =>
      have hp : ((S p).toList == pa.toList) = false := by
        rw [U.toList_L, U.toList_L, U.L_S, beq_eq_false_iff_ne]
        intro e
        apply hA
        simp only [U.kept?, Bool.and_eq_true, beq_iff_eq, Bool.not_eq_true']
        refine ⟨⟨?_, HK.out⟩, by rw [HO.out, e]⟩
        cases h : L raw with
        | nil => exact absurd h HNE.out
        | cons a b => rfl
      clear hA
      cases st
      · have h2 : U.esc 0 (L pa) = L r := by have := HE.out; rw [if_neg (by decide)] at this; rw [← this]; rfl
        have H2 := Lib.hid h2
        clear h2 HE
        go_wp2_with fail
        refine (c_kept raw 0 0 true _ hsr rfl HK).mono ?_
        rintro e w1 ⟨rfl, ⟨n1, rfl⟩⟩
        go_wp2_with fail
        refine (c_Unescape raw (S p) 0 0 _ hsr rfl HO).mono ?_
        rintro e w1 ⟨rfl, b1⟩
        have hb : w1.cell? ⟨g, 7, none⟩ = some (.string pa) := (b1.cell (p := ⟨g, 7, none⟩) (heap_lt HI.out)).trans (c4 n1)
        have B1 : Hid (Below W.heap.size W w1) := Lib.hid ((below_n HB.out n1).trans (b1.mono HB.out.size))
        clear b1 c4 c7 c40 c70
        go_wp2_with fail
        refine (c_Escape pa r 0 0 _ hsp rfl H2).mono ?_
        rintro e w2 ⟨rfl, b2⟩
        go_wp2_with fail
        go_ret
        exact ⟨rfl, B1.out.trans (b2.mono B1.out.size)⟩
      · have h2 : r = ⟨#[42]⟩ := by have := HE.out; simpa using this
        have H2 := Lib.hid h2
        clear h2 HE
        go_wp2_with fail
        refine (c_kept raw 0 0 true _ hsr rfl HK).mono ?_
        rintro e w1 ⟨rfl, ⟨n1, rfl⟩⟩
        go_wp2_with fail
        refine (c_Unescape raw (S p) 0 0 _ hsr rfl HO).mono ?_
        rintro e w1 ⟨rfl, b1⟩
        have hb : w1.cell? ⟨g, 7, none⟩ = some (.string pa) := (b1.cell (p := ⟨g, 7, none⟩) (heap_lt HI.out)).trans (c4 n1)
        have B1 : Hid (Below W.heap.size W w1) := Lib.hid ((below_n HB.out n1).trans (b1.mono HB.out.size))
        clear b1 c4 c7 c40 c70
        go_wp2_with fail
        go_ret
        rw [H2.out]
        exact ⟨rfl, B1.out⟩

set_option maxRecDepth 100000 in
set_option maxHeartbeats 3200000 in
theorem c_escFrag (W : World) (v : V) (hv : Sm v.fragment ∧ Sm v.rawFragment) :
    Calls Tryz.prog 21 #[v.val] W fun e w' => e = .returned (.string (S (U.escFrag v))) ∧ Below W.heap.size W w' := by
  obtain ⟨r, HR⟩ : ∃ r, Hid (S (U.escFrag v) = r) := ⟨_, rfl⟩
  rw [HR.out]
  obtain ⟨hsp, hsr⟩ := hv
  have hB : Below W.heap.size W (W.alloc (.cells v.cells 23)) := (Below.refl _ _).alloc (Nat.le_refl _) _
  have hI : IsV (W.alloc (.cells v.cells 23)) W.heap.size v := heap_new _ _ _ rfl
  have HB := Lib.hid hB
  have HI := Lib.hid hI
  go_enter Tryz.func21, Tryz.ntmps21
  go_upto_region 1 with fail
  change Code.wp _ _ _ _ (W.alloc (.cells v.cells 23))
  obtain ⟨W1, hW1⟩ : ∃ x, W.alloc (.cells v.cells 23) = x := ⟨_, rfl⟩
  rw [hW1] at HB HI ⊢
  obtain ⟨g, hg⟩ : ∃ g, W.heap.size = g := ⟨_, rfl⟩
  have HG := Lib.hid hg
  rw [hg] at HI ⊢
  clear hW1 hB hI hg
  have c4 : ∀ n, (W1.drewN n).cell? ⟨g, 12, none⟩ = some (.string v.fragment) := fun n => cell_at (w := W1.drewN n) HI.out rfl
  have c7 : ∀ n, (W1.drewN n).cell? ⟨g, 13, none⟩ = some (.string v.rawFragment) := fun n => cell_at (w := W1.drewN n) HI.out rfl
  have c40 : W1.cell? ⟨g, 12, none⟩ = some (.string v.fragment) := cell_at HI.out rfl
  have c70 : W1.cell? ⟨g, 13, none⟩ = some (.string v.rawFragment) := cell_at HI.out rfl
  obtain ⟨raw, HRA⟩ : ∃ x, Hid (v.rawFragment = x) := ⟨_, rfl⟩
  obtain ⟨pa, HPA⟩ : ∃ x, Hid (v.fragment = x) := ⟨_, rfl⟩
  have HV : Hid (S (if U.kept? 3 (L raw) (L pa) then L raw else U.esc 3 (L pa)) = r) := by
    rw [← HR.out, ← HRA.out, ← HPA.out]
    exact Lib.hid rfl
  rw [HPA.out] at c4 hsp c40
  rw [HRA.out] at c7 hsr c70
  obtain ⟨o, HO⟩ : ∃ o, Hid (U.unesc 3 (L raw) = o) := ⟨_, rfl⟩
  obtain ⟨k, HK⟩ : ∃ o, Hid (U.kept 3 (L raw) = o) := ⟨_, rfl⟩
  clear HR HRA HPA
  by_cases hA : U.kept? 3 (L raw) (L pa) = true
  · have hr : r = raw := by rw [← HV.out, if_pos hA, U.S_L]
    subst hr
    simp only [U.kept?, Bool.and_eq_true, beq_iff_eq, Bool.not_eq_true'] at hA
    obtain ⟨⟨h1, h2⟩, h3⟩ := hA
    have hne : (r.toList == []) = false := by rw [U.toList_L]; cases h : L r with
      | nil => rw [h] at h1; simp at h1
      | cons a b => rfl
    obtain rfl : k = true := by rw [← HK.out, h2]
    obtain rfl : o = some (L pa) := by rw [← HO.out, h3]
    clear h1 h2 h3
    go_wp2_with fail
    refine (c_kept r 3 3 true _ hsr rfl HK).mono ?_
    rintro e w1 ⟨rfl, ⟨n1, rfl⟩⟩
    go_wp2_with fail
    refine (c_Unescape r pa 3 3 _ hsr rfl HO).mono ?_
    rintro e w1 ⟨rfl, b1⟩
    have hI1 := (HI.out.drewN n1).keep b1
    have hb : w1.cell? ⟨g, 12, none⟩ = some (.string pa) := (b1.cell (p := ⟨g, 12, none⟩) (heap_lt HI.out)).trans (c4 n1)
    have hb7 : w1.cell? ⟨g, 13, none⟩ = some (.string r) := (b1.cell (p := ⟨g, 13, none⟩) (heap_lt HI.out)).trans (c7 n1)
    have B1 : Hid (Below W.heap.size W w1) := Lib.hid ((below_n HB.out n1).trans (b1.mono HB.out.size))
    clear b1 c4 c7 c40 c70 hI1
    go_wp2_with fail
    go_ret
    exact ⟨rfl, B1.out⟩
  · have HV2 : Hid (S (U.esc 3 (L pa)) = r) := by rw [← HV.out, if_neg hA]; exact Lib.hid rfl
    have H2 : Hid (U.esc 3 (L pa) = L r) := by rw [← HV2.out]; exact Lib.hid rfl
    clear HV HV2
    by_cases hr : L raw = []
    · have h1 : raw.toList = [] := by rw [U.toList_L]; exact hr
      clear hr hA HO HK
      go_wp2_with fail
      refine (c_Escape pa r 3 3 _ hsp rfl H2).mono ?_
      rintro e w2 ⟨rfl, b2⟩
      go_wp2_with fail
      go_ret
      exact ⟨rfl, HB.out.trans (b2.mono HB.out.size)⟩
    have h1 : (raw.toList == []) = false := by rw [U.toList_L]; simpa using hr
    have HNE : Hid (¬ L raw = []) := Lib.hid hr
    clear hr
    cases k
    · clear hA HO
      go_wp2_with fail
      refine (c_kept raw 3 3 false _ hsr rfl HK).mono ?_
      rintro e w1 ⟨rfl, ⟨n1, rfl⟩⟩
      go_wp2_with fail
      refine (c_Escape pa r 3 3 _ hsp rfl H2).mono ?_
      rintro e w2 ⟨rfl, b2⟩
      go_wp2_with fail
      go_ret
      exact ⟨rfl, (below_n HB.out n1).trans (b2.mono HB.out.size)⟩
    cases o with
    | none =>
      clear hA
      go_wp2_with fail
      refine (c_kept raw 3 3 true _ hsr rfl HK).mono ?_
      rintro e w1 ⟨rfl, ⟨n1, rfl⟩⟩
      go_wp2_with fail
      refine (c_Unescape_no raw 3 3 _ hsr rfl HO).mono ?_
      rintro e w1 ⟨rfl, b1⟩
      have hb : w1.cell? ⟨g, 12, none⟩ = some (.string pa) := (b1.cell (p := ⟨g, 12, none⟩) (heap_lt HI.out)).trans (c4 n1)
      have B1 : Hid (Below W.heap.size W w1) := Lib.hid ((below_n HB.out n1).trans (b1.mono HB.out.size))
      clear b1 c4 c7 c40 c70
      go_wp2_with fail
      refine (c_Escape pa r 3 3 _ hsp rfl H2).mono ?_
      rintro e w2 ⟨rfl, b2⟩
      go_wp2_with fail
      go_ret
      exact ⟨rfl, B1.out.trans (b2.mono B1.out.size)⟩
    | some p =>
      have hp : ((S p).toList == pa.toList) = false := by
        rw [U.toList_L, U.toList_L, U.L_S, beq_eq_false_iff_ne]
        intro e
        apply hA
        simp only [U.kept?, Bool.and_eq_true, beq_iff_eq, Bool.not_eq_true']
        refine ⟨⟨?_, HK.out⟩, by rw [HO.out, e]⟩
        cases h : L raw with
        | nil => exact absurd h HNE.out
        | cons a b => rfl
      clear hA
      go_wp2_with fail
      refine (c_kept raw 3 3 true _ hsr rfl HK).mono ?_
      rintro e w1 ⟨rfl, ⟨n1, rfl⟩⟩
      go_wp2_with fail
      refine (c_Unescape raw (S p) 3 3 _ hsr rfl HO).mono ?_
      rintro e w1 ⟨rfl, b1⟩
      have hb : w1.cell? ⟨g, 12, none⟩ = some (.string pa) := (b1.cell (p := ⟨g, 12, none⟩) (heap_lt HI.out)).trans (c4 n1)
      have B1 : Hid (Below W.heap.size W w1) := Lib.hid ((below_n HB.out n1).trans (b1.mono HB.out.size))
      clear b1 c4 c7 c40 c70
      go_wp2_with fail
      refine (c_Escape pa r 3 3 _ hsp rfl H2).mono ?_
      rintro e w2 ⟨rfl, b2⟩
      go_wp2_with fail
      go_ret
      exact ⟨rfl, B1.out.trans (b2.mono B1.out.size)⟩
end Go.Proofs.YtphkohpphdcjhaaGreatDoor
namespace Go.Proofs.YtphkohpphdcjhaaGreatDoor
open Go.RowKit Go.Proofs.YtphkohpphdcjhaaGreatDoorW.PrintWords
open U (L S)

/-- What a request asks for ahead of the query. -/
def askFront (v : V) : U.B :=
  if L v.opq = [] then (if U.escPath v = [] then [47] else U.escPath v) else if (L v.opq).take 2 = [47, 47] then L v.scheme ++ [58] ++ L v.opq else L v.opq
/-- The query behind it. -/
def askTail (v : V) : U.B := if v.forceQuery = true ∨ L v.rawQuery ≠ [] then 63 :: L v.rawQuery else []
theorem request_is (v : V) : U.request v = askFront v ++ askTail v := rfl
theorem two_slashes (s : ByteArray) (b : Bool) (H : Hid (decide ((L s).take 2 = [47, 47]) = b)) : (¬ (2 : Int) ≤ (s.size : Int) ∧ b = false) ∨ ((2 : Int) ≤ (s.size : Int) ∧ ((s.extract 0 2).toList == [47, 47]) = b) := by
  by_cases h : (2 : Int) ≤ (s.size : Int)
  · refine .inr ⟨h, ?_⟩
    rw [← H.out, U.toList_L, U.ext_to, U.L_S]
    show ((L s).take 2 == [47, 47]) = decide ((L s).take 2 = [47, 47])
    rw [Bool.eq_iff_iff]
    simp
  · refine .inl ⟨h, ?_⟩
    rw [← H.out]
    simp only [decide_eq_false_iff_not]
    intro e
    have := congrArg List.length e
    rw [List.length_take, U.len_L] at this
    simp at this
    omega
theorem empty_ways (s : ByteArray) : (L s = [] ∧ s.toList = []) ∨ (L s ≠ [] ∧ (s.toList == []) = false) := by
  rw [U.toList_L]
  by_cases h : L s = []
  · exact .inl ⟨h, h⟩
  · exact .inr ⟨h, by simpa using h⟩

/-- What stands in a slot behind the first part. -/
def AskCut (v : V) (W : World) (t : Value) (w : World) : Prop := ∃ a : ByteArray, t = .string a ∧ L a = askFront v ∧ a.size ≤ 400000000 ∧ Below W.heap.size W w
theorem escPath_size {v : V} {n : Nat} (h : v.Sm n) : (U.escPath v).length ≤ 3 * n := by
  have := U.escPath_len v
  have := h.path
  rw [U.len_L] at *
  omega

set_option maxRecDepth 100000 in
set_option maxHeartbeats 3200000 in
theorem c_request (W : World) (v : V) (hv : v.Sm 100000000) :
    Calls Tryz.prog 23 #[v.val] W fun e w' => e = .returned (.string (S (U.request v))) ∧ Below W.heap.size W w' := by
  have hB : Below W.heap.size W (W.alloc (.cells v.cells 23)) := (Below.refl _ _).alloc (Nat.le_refl _) _
  have hI : IsV (W.alloc (.cells v.cells 23)) W.heap.size v := heap_new _ _ _ rfl
  have HB := Lib.hid hB
  have HI := Lib.hid hI
  obtain ⟨r, HR⟩ : ∃ r, Hid (S (U.request v) = r) := ⟨_, rfl⟩
  rw [HR.out]
  have hs1 := hv.scheme
  have hs2 := hv.opq
  have hs3 := hv.rawQuery
  have hs4 : Sm v.path ∧ Sm v.rawPath := ⟨Nat.le_trans hv.path (by decide), Nat.le_trans hv.rawPath (by decide)⟩
  have hs5 := escPath_size hv
  go_enter Tryz.func23, Tryz.ntmps23
  go_upto_region 1 with fail
  change Code.wp _ _ _ _ (W.alloc (.cells v.cells 23))
  obtain ⟨W1, hW1⟩ : ∃ x, W.alloc (.cells v.cells 23) = x := ⟨_, rfl⟩
  rw [hW1] at HB HI ⊢
  obtain ⟨g, hg⟩ : ∃ g, W.heap.size = g := ⟨_, rfl⟩
  have HG := Lib.hid hg
  rw [hg] at HI ⊢
  clear hW1 hB hI hg
  have c1 : W1.cell? ⟨g, 1, none⟩ = some (.string v.opq) := cell_at HI.out rfl
  have c0 : W1.cell? ⟨g, 0, none⟩ = some (.string v.scheme) := cell_at HI.out rfl
  go_upto_block 0 with fail
  go_cut [3] (fun t wx => AskCut v W1 t wx)
  case first =>
    as_aux_lemma =>
    rcases empty_ways v.opq with ⟨ho, e0⟩ | ⟨ho, e0⟩
    · obtain ⟨ep, HEP⟩ : ∃ ep, Hid (S (U.escPath v) = ep) := ⟨_, rfl⟩
      have hep : U.escPath v = L ep := by rw [← HEP.out]; rfl
      have hez : ep.size ≤ 300000000 := by rw [← U.len_L, ← hep]; omega
      have HF : Hid (askFront v = if L ep = [] then [47] else L ep) := by
        rw [askFront, if_pos ho, hep]
        exact Lib.hid rfl
      clear ho hep
      go_wp2_with (refine wpl_loadV rfl _ rfl _ _ rfl HI.out ?_)
      refine (c_escPath W1 v hs4).mono ?_
      rintro e w2 ⟨rfl, b2⟩
      rw [HEP.out]
      rcases empty_ways ep with ⟨e1, e2⟩ | ⟨e1, e2⟩
      · have HF2 : Hid (askFront v = [47]) := by rw [HF.out, if_pos e1]; exact Lib.hid rfl
        clear HF e1
        have B2 := Lib.hid b2
        clear b2
        go_wp2_with fail
        go_meet
        exact ⟨_, rfl, by rw [HF2.out]; rfl, by decide, B2.out⟩
      · have HF2 : Hid (askFront v = L ep) := by rw [HF.out, if_neg e1]; exact Lib.hid rfl
        clear HF e1
        have B2 := Lib.hid b2
        clear b2
        go_wp2_with fail
        go_meet
        exact ⟨ep, rfl, HF2.out.symm, by omega, B2.out⟩
    · obtain ⟨b, HB2⟩ : ∃ b, Hid (decide ((L v.opq).take 2 = [47, 47]) = b) := ⟨_, rfl⟩
      have HF : Hid (askFront v = if b = true then L v.scheme ++ [58] ++ L v.opq else L v.opq) := by
        rw [askFront, if_neg ho, ← HB2.out]
        refine Lib.hid ?_
        simp only [decide_eq_true_eq]
      rcases two_slashes v.opq b HB2 with ⟨h2, rfl⟩ | ⟨h2, h4⟩
      · clear ho
        go_wp2_with fail
        go_meet
        exact ⟨v.opq, rfl, by rw [HF.out]; rfl, by omega, Below.refl _ _⟩
      · clear ho
        go_upto_if 13 with fail
        clear h4
        cases b
        · go_wp2_with fail
          go_meet
          exact ⟨v.opq, rfl, by rw [HF.out]; rfl, by omega, Below.refl _ _⟩
        · go_wp2_with fail
          go_meet
          refine ⟨_, rfl, by rw [HF.out, U.app_S, U.app_S]; simp; rfl, ?_, Below.refl _ _⟩
          simp only [ByteArray.size_append]
          show v.scheme.size + 1 + v.opq.size ≤ _
          omega
  case rest =>
    obtain ⟨a, rfl, hA, hsa, b2⟩ := hcut
    have HA := Lib.hid hA
    clear hA
    have hI2 := HI.out.keep b2
    have c10 : wc.cell? ⟨g, 10, none⟩ = some (.bool v.forceQuery) := cell_at hI2 rfl
    have c11 : wc.cell? ⟨g, 11, none⟩ = some (.string v.rawQuery) := cell_at hI2 rfl
    have B2 := Lib.hid (HB.out.trans (b2.mono HB.out.size))
    clear b2 hI2 c0 c1
    obtain ⟨fq, HFQ⟩ : ∃ b, Hid (v.forceQuery = b) := ⟨_, rfl⟩
    have HT : Hid (askTail v = if fq = true ∨ L v.rawQuery ≠ [] then 63 :: L v.rawQuery else []) := by
      rw [← HFQ.out]
      exact Lib.hid rfl
    have HR2 : Hid (r = S (L a ++ askTail v)) := by rw [← HR.out, request_is, HA.out]; exact Lib.hid rfl
    rw [HFQ.out] at c10
    rcases empty_ways v.rawQuery with ⟨e1, e2⟩ | ⟨e1, e2⟩
    · cases fq
      · have hr : r = a := by rw [HR2.out, HT.out, if_neg (by simp [e1]), List.append_nil, U.S_L]
        subst hr
        clear e1
        go_wp2_with fail
        go_ret
        exact ⟨rfl, B2.out⟩
      · have hr : r = a ++ (⟨#[63]⟩ ++ v.rawQuery) := by rw [HR2.out, HT.out, if_pos (by simp), U.app_S, U.app_S]; rfl
        have HR3 := Lib.hid hr
        clear e1 hr
        go_wp2_with fail
        go_ret
        exact ⟨by rw [HR3.out]; rfl, B2.out⟩
    · have hr : r = a ++ (⟨#[63]⟩ ++ v.rawQuery) := by rw [HR2.out, HT.out, if_pos (.inr e1), U.app_S, U.app_S]; rfl
      have HR3 := Lib.hid hr
      clear e1 hr
      cases fq
      all_goals
        go_wp2_with fail
        go_ret
        exact ⟨by rw [HR3.out]; rfl, B2.out⟩
end Go.Proofs.YtphkohpphdcjhaaGreatDoor
namespace Go.Proofs.YtphkohpphdcjhaaGreatDoor
open Go.RowKit Go.Proofs.YtphkohpphdcjhaaGreatDoorW.PrintWords
open U (L S)

set_option maxRecDepth 100000 in
set_option maxHeartbeats 3200000 in
theorem i_request (W : World) (g : Nat) (v : V) (hv : v.Sm 100000000) (hT : Tab W) (hg : IsU W g v) :
    Calls Tryz.prog 47 #[.pointer (some ⟨g, 0, none⟩)] W fun e w' => e = .returned (.string (S (U.request v))) ∧ Below W.heap.size W w' := by
  obtain ⟨r, HR⟩ : ∃ r, Hid (S (U.request v) = r) := ⟨_, rfl⟩
  rw [HR.out]
  have hs1 := hv.scheme
  have hs2 := hv.opq
  have hs3 := hv.rawQuery
  have hs5 := escPath_size hv
  have CE := Lib.hid (i_escPath W g v hv hT hg)
  have HU := Lib.hid hg
  obtain ⟨u, h1, h2⟩ := hg
  have c1 : W.cell? ⟨g, 1, none⟩ = some (.string v.opq) := cell_at h1 rfl
  have c0 : W.cell? ⟨g, 0, none⟩ = some (.string v.scheme) := cell_at h1 rfl
  clear h1 h2 hT hv
  go_enter Tryz.func47, Tryz.ntmps47
  obtain ⟨oe, HOE⟩ : ∃ b, Hid (decide (L v.opq = []) = b) := ⟨_, rfl⟩
  go_upto_region 2 with fail
  go_cut [9] (fun t wx => t = .bool oe ∧ wx = W)
  case first =>
    rcases empty_ways v.opq with ⟨ho, e0⟩ | ⟨ho, e0⟩
    · have h : oe = true := by rw [← HOE.out, decide_eq_true ho]
      subst h
      clear ho
      go_wp2_with fail
      go_meet
      exact ⟨rfl, rfl⟩
    · have h : oe = false := by rw [← HOE.out, decide_eq_false ho]
      subst h
      clear ho
      go_wp2_with fail
      go_meet
      exact ⟨rfl, rfl⟩
  obtain ⟨rfl, e⟩ := hcut
  obtain rfl := e.symm
  go_upto_if 9 with fail
  go_cut [3] (fun t wx => AskCut v W t wx)
  case first =>
    as_aux_lemma =>
    cases oe
    case true =>
      have ho := of_decide_eq_true HOE.out
      obtain ⟨ep, HEP⟩ : ∃ ep, Hid (S (U.escPath v) = ep) := ⟨_, rfl⟩
      have hep : U.escPath v = L ep := by rw [← HEP.out]; rfl
      have hez : ep.size ≤ 300000000 := by rw [← U.len_L, ← hep]; omega
      have HF : Hid (askFront v = if L ep = [] then [47] else L ep) := by
        rw [askFront, if_pos ho, hep]
        exact Lib.hid rfl
      clear ho hep
      go_wp2_with fail
      refine CE.out.mono ?_
      rintro e w2 ⟨rfl, b2⟩
      rw [HEP.out]
      rcases empty_ways ep with ⟨e1, e2⟩ | ⟨e1, e2⟩
      · have HF2 : Hid (askFront v = [47]) := by rw [HF.out, if_pos e1]; exact Lib.hid rfl
        clear HF e1
        have B2 := Lib.hid b2
        clear b2
        go_wp2_with fail
        go_meet
        exact ⟨_, rfl, by rw [HF2.out]; rfl, by decide, B2.out⟩
      · have HF2 : Hid (askFront v = L ep) := by rw [HF.out, if_neg e1]; exact Lib.hid rfl
        clear HF e1
        have B2 := Lib.hid b2
        clear b2
        go_wp2_with fail
        go_meet
        exact ⟨ep, rfl, HF2.out.symm, by omega, B2.out⟩
    case false =>
      have ho := of_decide_eq_false HOE.out
      obtain ⟨b, HB2⟩ : ∃ b, Hid (decide ((L v.opq).take (⟨#[47, 47]⟩ : ByteArray).size = L ⟨#[47, 47]⟩) = b) := ⟨_, rfl⟩
      have HF : Hid (askFront v = if b = true then L v.scheme ++ [58] ++ L v.opq else L v.opq) := by
        rw [askFront, if_neg ho, ← HB2.out]
        refine Lib.hid ?_
        simp only [decide_eq_true_eq]
        rfl
      clear ho
      go_wp2_with fail
      refine (i_prefix v.opq _ b _ HB2).mono ?_
      rintro e w2 ⟨rfl, rfl⟩
      cases b
      · go_wp2_with fail
        go_meet
        exact ⟨v.opq, rfl, by rw [HF.out]; rfl, by omega, Below.refl _ _⟩
      · go_wp2_with fail
        go_meet
        refine ⟨_, rfl, by rw [HF.out, U.app_S, U.app_S]; simp; rfl, ?_, Below.refl _ _⟩
        simp only [ByteArray.size_append]
        show v.scheme.size + 1 + v.opq.size ≤ _
        omega
  case rest =>
    obtain ⟨a, rfl, hA, hsa, b2⟩ := hcut
    have HA := Lib.hid hA
    clear hA
    obtain ⟨u, k1, k2⟩ := HU.out.keep b2
    have c10 : wc.cell? ⟨g, 9, none⟩ = some (.bool v.forceQuery) := cell_at k1 rfl
    have c11 : wc.cell? ⟨g, 6, none⟩ = some (.string v.rawQuery) := cell_at k1 rfl
    have B2 := Lib.hid b2
    clear b2 k1 k2 c0 c1
    obtain ⟨fq, HFQ⟩ : ∃ b, Hid (v.forceQuery = b) := ⟨_, rfl⟩
    have HT : Hid (askTail v = if fq = true ∨ L v.rawQuery ≠ [] then 63 :: L v.rawQuery else []) := by
      rw [← HFQ.out]
      exact Lib.hid rfl
    have HR2 : Hid (r = S (L a ++ askTail v)) := by rw [← HR.out, request_is, HA.out]; exact Lib.hid rfl
    rw [HFQ.out] at c10
    rcases empty_ways v.rawQuery with ⟨e1, e2⟩ | ⟨e1, e2⟩
    · cases fq
      · have hr : r = a := by rw [HR2.out, HT.out, if_neg (by simp [e1]), List.append_nil, U.S_L]
        subst hr
        clear e1
        go_wp2_with fail
        go_ret
        exact ⟨rfl, B2.out⟩
      · have hr : r = a ++ (⟨#[63]⟩ ++ v.rawQuery) := by rw [HR2.out, HT.out, if_pos (by simp), U.app_S, U.app_S]; rfl
        have HR3 := Lib.hid hr
        clear e1 hr
        go_wp2_with fail
        go_ret
        exact ⟨by rw [HR3.out]; rfl, B2.out⟩
    · have hr : r = a ++ (⟨#[63]⟩ ++ v.rawQuery) := by rw [HR2.out, HT.out, if_pos (.inr e1), U.app_S, U.app_S]; rfl
      have HR3 := Lib.hid hr
      clear e1 hr
      cases fq
      all_goals
        go_wp2_with fail
        go_ret
        exact ⟨by rw [HR3.out]; rfl, B2.out⟩

set_option maxHeartbeats 400000 in
theorem i_isAbs (W : World) (g : Nat) (v : V) (hg : IsU W g v) :
    Calls Tryz.prog 48 #[.pointer (some ⟨g, 0, none⟩)] W fun e w' => e = .returned (.bool (!decide (L v.scheme = []))) ∧ W = w' := by
  obtain ⟨u, h1, h2⟩ := hg
  have c0 : W.cell? ⟨g, 0, none⟩ = some (.string v.scheme) := cell_at h1 rfl
  clear h1 h2
  rcases empty_ways v.scheme with ⟨e1, e2⟩ | ⟨e1, e2⟩
  · rw [decide_eq_true e1]
    clear e1
    go_enter Tryz.func48, Tryz.ntmps48
    go_wp2_with fail
    go_ret
    exact ⟨rfl, rfl⟩
  · rw [decide_eq_false e1]
    clear e1
    go_enter Tryz.func48, Tryz.ntmps48
    go_wp2_with fail
    go_ret
    exact ⟨rfl, rfl⟩
end Go.Proofs.YtphkohpphdcjhaaGreatDoor
namespace Go.Proofs.YtphkohpphdcjhaaGreatDoor
open Go.RowKit Go.Proofs.YtphkohpphdcjhaaGreatDoorW.PrintWords Go.Proofs.YtphkohpphdcjhaaGreatDoorW.PrintLast
open U (L S)

set_option maxRecDepth 100000 in
set_option maxHeartbeats 3200000 in
theorem t_escPath (v : V) (W : World) (hv : v.Sm 4000) (hf : v.fair) (hT : Tab W) :
    Calls Tryz.prog 18 #[v.val] W fun e w' => e = .returned (.string (S (U.escPath v))) ∧ Below W.heap.size W w' := by
  have hv2 : v.Sm 100000000 := ⟨by have := hv.scheme; omega, by have := hv.opq; omega, by have := hv.user; omega, by have := hv.pass; omega, by have := hv.host; omega, by have := hv.path; omega, by have := hv.rawPath; omega, by have := hv.rawQuery; omega, by have := hv.fragment; omega, by have := hv.rawFragment; omega⟩
  have HV := Lib.hid hv
  have HV2 := Lib.hid hv2
  have HF := Lib.hid hf
  have HT := Lib.hid hT
  obtain ⟨r, HR⟩ : ∃ r, Hid ((S (U.escPath v)) = r) := ⟨_, rfl⟩
  rw [HR.out]
  have hB : Below W.heap.size W (W.alloc (.cells v.cells 23)) := (Below.refl _ _).alloc (Nat.le_refl _) _
  have hI : IsV (W.alloc (.cells v.cells 23)) W.heap.size v := heap_new _ _ _ rfl
  have HB := Lib.hid hB
  have HI := Lib.hid hI
  clear hv hv2 hf hT
  go_enter Tryz.func18, Tryz.ntmps18
  go_upto_region 1 with fail
  change Code.wp _ _ _ _ (W.alloc (.cells v.cells 23))
  obtain ⟨W1, hW1⟩ : ∃ x, W.alloc (.cells v.cells 23) = x := ⟨_, rfl⟩
  rw [hW1] at HB HI ⊢
  clear hW1 hB hI
  go_wp2_with (refine wpl_loadV rfl _ rfl _ _ rfl HI.out ?_)
  refine (i_fits v W1 HV.out).mono ?_
  rintro e w2 ⟨rfl, b2⟩
  have HI2 := Lib.hid (HI.out.keep b2)
  have B2 := Lib.hid (HB.out.trans (b2.mono HB.out.size))
  clear b2
  go_wp2_with (refine wpl_loadV rfl _ rfl _ _ rfl HI2.out ?_)
  refine (i_made v w2 HF.out).mono ?_
  rintro e w3 ⟨b3, g, rfl, hg, u3⟩
  have U3 := Lib.hid u3
  have B3 := Lib.hid (B2.out.trans (b3.mono B2.out.size))
  clear b3 u3
  go_wp2_with fail
  refine (i_escPath w3 g v HV2.out (HT.out.below B3.out) U3.out).mono ?_
  rintro e w4 ⟨rfl, b4⟩
  rw [HR.out]
  go_wp2_with fail
  go_ret
  exact ⟨rfl, B3.out.trans (b4.mono B3.out.size)⟩

set_option maxRecDepth 100000 in
set_option maxHeartbeats 3200000 in
theorem t_escFrag (v : V) (W : World) (hv : v.Sm 4000) (hf : v.fair) (hT : Tab W) :
    Calls Tryz.prog 20 #[v.val] W fun e w' => e = .returned (.string (S (U.escFrag v))) ∧ Below W.heap.size W w' := by
  have hv2 : v.Sm 100000000 := ⟨by have := hv.scheme; omega, by have := hv.opq; omega, by have := hv.user; omega, by have := hv.pass; omega, by have := hv.host; omega, by have := hv.path; omega, by have := hv.rawPath; omega, by have := hv.rawQuery; omega, by have := hv.fragment; omega, by have := hv.rawFragment; omega⟩
  have HV := Lib.hid hv
  have HV2 := Lib.hid hv2
  have HF := Lib.hid hf
  have HT := Lib.hid hT
  obtain ⟨r, HR⟩ : ∃ r, Hid ((S (U.escFrag v)) = r) := ⟨_, rfl⟩
  rw [HR.out]
  have hB : Below W.heap.size W (W.alloc (.cells v.cells 23)) := (Below.refl _ _).alloc (Nat.le_refl _) _
  have hI : IsV (W.alloc (.cells v.cells 23)) W.heap.size v := heap_new _ _ _ rfl
  have HB := Lib.hid hB
  have HI := Lib.hid hI
  clear hv hv2 hf hT
  go_enter Tryz.func20, Tryz.ntmps20
  go_upto_region 1 with fail
  change Code.wp _ _ _ _ (W.alloc (.cells v.cells 23))
  obtain ⟨W1, hW1⟩ : ∃ x, W.alloc (.cells v.cells 23) = x := ⟨_, rfl⟩
  rw [hW1] at HB HI ⊢
  clear hW1 hB hI
  go_wp2_with (refine wpl_loadV rfl _ rfl _ _ rfl HI.out ?_)
  refine (i_fits v W1 HV.out).mono ?_
  rintro e w2 ⟨rfl, b2⟩
  have HI2 := Lib.hid (HI.out.keep b2)
  have B2 := Lib.hid (HB.out.trans (b2.mono HB.out.size))
  clear b2
  go_wp2_with (refine wpl_loadV rfl _ rfl _ _ rfl HI2.out ?_)
  refine (i_made v w2 HF.out).mono ?_
  rintro e w3 ⟨b3, g, rfl, hg, u3⟩
  have U3 := Lib.hid u3
  have B3 := Lib.hid (B2.out.trans (b3.mono B2.out.size))
  clear b3 u3
  go_wp2_with fail
  refine (i_escFrag w3 g v HV2.out (HT.out.below B3.out) U3.out).mono ?_
  rintro e w4 ⟨rfl, b4⟩
  rw [HR.out]
  go_wp2_with fail
  go_ret
  exact ⟨rfl, B3.out.trans (b4.mono B3.out.size)⟩

set_option maxRecDepth 100000 in
set_option maxHeartbeats 3200000 in
theorem t_request (v : V) (W : World) (hv : v.Sm 4000) (hf : v.fair) (hT : Tab W) :
    Calls Tryz.prog 22 #[v.val] W fun e w' => e = .returned (.string (S (U.request v))) ∧ Below W.heap.size W w' := by
  have hv2 : v.Sm 100000000 := ⟨by have := hv.scheme; omega, by have := hv.opq; omega, by have := hv.user; omega, by have := hv.pass; omega, by have := hv.host; omega, by have := hv.path; omega, by have := hv.rawPath; omega, by have := hv.rawQuery; omega, by have := hv.fragment; omega, by have := hv.rawFragment; omega⟩
  have HV := Lib.hid hv
  have HV2 := Lib.hid hv2
  have HF := Lib.hid hf
  have HT := Lib.hid hT
  obtain ⟨r, HR⟩ : ∃ r, Hid ((S (U.request v)) = r) := ⟨_, rfl⟩
  rw [HR.out]
  have hB : Below W.heap.size W (W.alloc (.cells v.cells 23)) := (Below.refl _ _).alloc (Nat.le_refl _) _
  have hI : IsV (W.alloc (.cells v.cells 23)) W.heap.size v := heap_new _ _ _ rfl
  have HB := Lib.hid hB
  have HI := Lib.hid hI
  clear hv hv2 hf hT
  go_enter Tryz.func22, Tryz.ntmps22
  go_upto_region 1 with fail
  change Code.wp _ _ _ _ (W.alloc (.cells v.cells 23))
  obtain ⟨W1, hW1⟩ : ∃ x, W.alloc (.cells v.cells 23) = x := ⟨_, rfl⟩
  rw [hW1] at HB HI ⊢
  clear hW1 hB hI
  go_wp2_with (refine wpl_loadV rfl _ rfl _ _ rfl HI.out ?_)
  refine (i_fits v W1 HV.out).mono ?_
  rintro e w2 ⟨rfl, b2⟩
  have HI2 := Lib.hid (HI.out.keep b2)
  have B2 := Lib.hid (HB.out.trans (b2.mono HB.out.size))
  clear b2
  go_wp2_with (refine wpl_loadV rfl _ rfl _ _ rfl HI2.out ?_)
  refine (i_made v w2 HF.out).mono ?_
  rintro e w3 ⟨b3, g, rfl, hg, u3⟩
  have U3 := Lib.hid u3
  have B3 := Lib.hid (B2.out.trans (b3.mono B2.out.size))
  clear b3 u3
  go_wp2_with fail
  refine (i_request w3 g v HV2.out (HT.out.below B3.out) U3.out).mono ?_
  rintro e w4 ⟨rfl, b4⟩
  rw [HR.out]
  go_wp2_with fail
  go_ret
  exact ⟨rfl, B3.out.trans (b4.mono B3.out.size)⟩

set_option maxRecDepth 100000 in
set_option maxHeartbeats 3200000 in
theorem t_isAbs (v : V) (W : World) (hv : v.Sm 4000) (hf : v.fair) (hT : Tab W) :
    Calls Tryz.prog 24 #[v.val] W fun e w' => e = .returned (.bool (!decide (L v.scheme = []))) ∧ Below W.heap.size W w' := by
  have hv2 : v.Sm 100000000 := ⟨by have := hv.scheme; omega, by have := hv.opq; omega, by have := hv.user; omega, by have := hv.pass; omega, by have := hv.host; omega, by have := hv.path; omega, by have := hv.rawPath; omega, by have := hv.rawQuery; omega, by have := hv.fragment; omega, by have := hv.rawFragment; omega⟩
  have HV := Lib.hid hv
  have HV2 := Lib.hid hv2
  have HF := Lib.hid hf
  have HT := Lib.hid hT
  obtain ⟨r, HR⟩ : ∃ r, Hid ((!decide (L v.scheme = [])) = r) := ⟨_, rfl⟩
  rw [HR.out]
  have hB : Below W.heap.size W (W.alloc (.cells v.cells 23)) := (Below.refl _ _).alloc (Nat.le_refl _) _
  have hI : IsV (W.alloc (.cells v.cells 23)) W.heap.size v := heap_new _ _ _ rfl
  have HB := Lib.hid hB
  have HI := Lib.hid hI
  clear hv hv2 hf hT
  go_enter Tryz.func24, Tryz.ntmps24
  go_upto_region 1 with fail
  change Code.wp _ _ _ _ (W.alloc (.cells v.cells 23))
  obtain ⟨W1, hW1⟩ : ∃ x, W.alloc (.cells v.cells 23) = x := ⟨_, rfl⟩
  rw [hW1] at HB HI ⊢
  clear hW1 hB hI
  go_wp2_with (refine wpl_loadV rfl _ rfl _ _ rfl HI.out ?_)
  refine (i_fits v W1 HV.out).mono ?_
  rintro e w2 ⟨rfl, b2⟩
  have HI2 := Lib.hid (HI.out.keep b2)
  have B2 := Lib.hid (HB.out.trans (b2.mono HB.out.size))
  clear b2
  go_wp2_with (refine wpl_loadVg (wanted_on rfl rfl rfl rfl) _ rfl _ _ rfl HI2.out ?_)
  refine (i_made v w2 HF.out).mono ?_
  rintro e w3 ⟨b3, g, rfl, hg, u3⟩
  have U3 := Lib.hid u3
  have B3 := Lib.hid (B2.out.trans (b3.mono B2.out.size))
  clear b3 u3
  go_wp2_with fail
  refine (i_isAbs w3 g v U3.out).mono ?_
  rintro e w4 ⟨rfl, rfl⟩
  rw [HR.out]
  go_wp2_with fail
  go_ret
  exact ⟨rfl, B3.out⟩

end Go.Proofs.YtphkohpphdcjhaaGreatDoor
namespace Go.Proofs.YtphkohpphdcjhaaGreatDoor
open Go.RowKit Go.Proofs.YtphkohpphdcjhaaGreatDoorW.PrintWords Go.Proofs.YtphkohpphdcjhaaGreatDoorW.PrintLast
open U (L S)

/-- A bool that tells P. -/
def Tells (W : World) (P : Prop) (e : Ending) (w' : World) : Prop := ∃ b, e = .returned (.bool b) ∧ (b = true → P) ∧ Below W.heap.size W w'
theorem V.Sm.mono {n m : Nat} {v : V} (h : v.Sm n) (hm : n ≤ m) : v.Sm m :=
  ⟨Nat.le_trans h.scheme hm, Nat.le_trans h.opq hm, Nat.le_trans h.user hm, Nat.le_trans h.pass hm, Nat.le_trans h.host hm, Nat.le_trans h.path hm, Nat.le_trans h.rawPath hm, Nat.le_trans h.rawQuery hm, Nat.le_trans h.fragment hm, Nat.le_trans h.rawFragment hm⟩

set_option maxRecDepth 100000 in
set_option maxHeartbeats 3200000 in
theorem c_zzFits (v : V) (W : World) (hv : v.Sm 9223372036854775807) : Calls Tryz.prog 16 #[v.val] W (Tells W (v.Sm 2147483647)) := by
  have h0 := hv.scheme
  have h1 := hv.opq
  have h2 := hv.user
  have h3 := hv.pass
  have h4 := hv.host
  have h5 := hv.path
  have h6 := hv.rawPath
  have h7 := hv.rawQuery
  have h8 := hv.fragment
  have h9 := hv.rawFragment
  clear hv
  go_enter Tryz.func16, Tryz.ntmps16
  go_wp2_with fail
  all_goals go_ret
  all_goals first
    | exact ⟨false, rfl, fun h => by simp at h, (Below.refl _ _).alloc (Nat.le_refl _) _⟩
    | exact ⟨true, rfl, fun _ => ⟨by omega, by omega, by omega, by omega, by omega, by omega, by omega, by omega, by omega, by omega⟩, (Below.refl _ _).alloc (Nat.le_refl _) _⟩

theorem empty_way (s : ByteArray) : (L s = [] ∧ s.toList = []) ∨ (L s ≠ [] ∧ (s.toList == []) = false) := by
  rw [U.toList_L]
  by_cases h : L s = []
  · exact .inl ⟨h, h⟩
  · exact .inr ⟨h, by simpa using h⟩
/-- Whether a reference is short and its user's name and password are marked where they are. -/
def shortB (v : V) : Bool :=
  decide ((v.scheme.size : Int) + v.opq.size + v.user.size + v.pass.size + v.host.size + v.path.size + v.rawPath.size + v.rawQuery.size + v.fragment.size + v.rawFragment.size ≤ 300) &&
    ((v.hasUser || (v.user.toList == [] && !v.hasPass)) && (v.hasPass || v.pass.toList == []))
theorem shortB_ok {v : V} (h : shortB v = true) : v.Sm 300 ∧ v.fair := by
  simp only [shortB, Bool.and_eq_true, decide_eq_true_eq] at h
  obtain ⟨hs, h1, h2⟩ := h
  refine ⟨⟨by omega, by omega, by omega, by omega, by omega, by omega, by omega, by omega, by omega, by omega⟩, fun hu => ?_, fun hp => ?_⟩
  · rw [hu] at h1
    simp only [Bool.false_or, Bool.and_eq_true, beq_iff_eq, Bool.not_eq_true'] at h1
    exact ⟨by rw [← U.toList_L]; exact h1.1, h1.2⟩
  · rw [hp] at h2
    simp only [Bool.false_or, beq_iff_eq] at h2
    rw [← U.toList_L]; exact h2
set_option maxRecDepth 100000 in
set_option maxHeartbeats 6400000 in
theorem c_short (v : V) (W : World) (hv : v.Sm 2147483647) : Calls Tryz.prog 17 #[v.val] W fun e w' => e = .returned (.bool (shortB v)) ∧ Below W.heap.size W w' := by
  have h0 := hv.scheme
  have h1 := hv.opq
  have h2 := hv.user
  have h3 := hv.pass
  have h4 := hv.host
  have h5 := hv.path
  have h6 := hv.rawPath
  have h7 := hv.rawQuery
  have h8 := hv.fragment
  have h9 := hv.rawFragment
  clear hv
  have hB : Below W.heap.size W (W.alloc (.cells v.cells 23)) := (Below.refl _ _).alloc (Nat.le_refl _) _
  have hI : IsV (W.alloc (.cells v.cells 23)) W.heap.size v := heap_new _ _ _ rfl
  have HB := Lib.hid hB
  have HI := Lib.hid hI
  clear hB hI
  obtain ⟨hu, HU⟩ : ∃ b, Hid (v.hasUser = b) := ⟨_, rfl⟩
  obtain ⟨hp, HP⟩ : ∃ b, Hid (v.hasPass = b) := ⟨_, rfl⟩
  go_enter Tryz.func17, Tryz.ntmps17
  go_upto_region 2 with fail
  change Code.wp _ _ _ _ (W.alloc (.cells v.cells 23))
  obtain ⟨W1, hW1⟩ : ∃ x, W.alloc (.cells v.cells 23) = x := ⟨_, rfl⟩
  rw [hW1] at HB HI ⊢
  clear hW1
  have c2 : W1.cell? ⟨W.heap.size, 2, none⟩ = some (.string v.user) := cell_at HI.out rfl
  have c3 : W1.cell? ⟨W.heap.size, 3, none⟩ = some (.string v.pass) := cell_at HI.out rfl
  have c4 : W1.cell? ⟨W.heap.size, 4, none⟩ = some (.bool v.hasUser) := cell_at HI.out rfl
  have c5 : W1.cell? ⟨W.heap.size, 5, none⟩ = some (.bool v.hasPass) := cell_at HI.out rfl
  rw [HU.out] at c4
  rw [HP.out] at c5
  by_cases hs : (v.scheme.size : Int) + v.opq.size + v.user.size + v.pass.size + v.host.size + v.path.size + v.rawPath.size + v.rawQuery.size + v.fragment.size + v.rawFragment.size ≤ 300
  · clear h0 h1 h2 h3 h4 h5 h6 h7 h8 h9
    cases hu
    · rcases empty_way v.user with ⟨u1, u2⟩ | ⟨u1, u2⟩
      · rcases empty_way v.pass with ⟨p1, p2⟩ | ⟨p1, p2⟩
        · cases hp
          · clear u1 p1
            go_wp2_with fail
            go_ret
            exact ⟨by simp [shortB, HU.out, HP.out, *], HB.out⟩
          · clear u1 p1
            go_wp2_with fail
            go_ret
            exact ⟨by simp [shortB, HU.out, HP.out, *], HB.out⟩
        · clear u1 p1
          go_wp2_with fail
          go_ret
          exact ⟨by simp [shortB, HU.out, HP.out, *], HB.out⟩
      · clear u1
        go_wp2_with fail
        go_ret
        exact ⟨by simp [shortB, HU.out, HP.out, *], HB.out⟩
    · cases hp
      · rcases empty_way v.pass with ⟨p1, p2⟩ | ⟨p1, p2⟩
        · clear p1
          go_wp2_with fail
          go_ret
          exact ⟨by simp [shortB, HU.out, HP.out, *], HB.out⟩
        · clear p1
          go_wp2_with fail
          go_ret
          exact ⟨by simp [shortB, HU.out, HP.out, *], HB.out⟩
      · go_wp2_with fail
        go_ret
        exact ⟨by simp [shortB, HU.out, HP.out, *], HB.out⟩
  · have hd : shortB v = false := by
      simp only [shortB, Bool.and_eq_false_iff, decide_eq_false_iff_not]
      left; omega
    go_wp2_with fail
    go_ret
    exact ⟨by first | rfl | rw [hd], HB.out⟩
end Go.Proofs.YtphkohpphdcjhaaGreatDoor
namespace Go.Proofs.YtphkohpphdcjhaaGreatDoor
open Go.RowKit Go.Proofs.YtphkohpphdcjhaaGreatDoorW.PrintWords Go.Proofs.YtphkohpphdcjhaaGreatDoorW.PrintLast
open U (L S)

/-- The worlds in which block g still holds v, the tables stand, and nothing of W has changed. -/
def Keeps (W : World) (g : Nat) (v : V) (w : World) : Prop := IsV w g v ∧ Tab w ∧ Below W.heap.size W w
theorem Keeps.next {W : World} {g : Nat} {v : V} {w w' : World} (h : Keeps W g v w) (hb : Below w.heap.size w w') : Keeps W g v w' :=
  ⟨h.1.keep hb, h.2.1.below hb, h.2.2.trans (hb.mono h.2.2.size)⟩
theorem Keeps.drew {W : World} {g : Nat} {v : V} {w : World} (h : Keeps W g v w) : Keeps W g v { w with drawn := w.drawn + 1 } :=
  h.next ⟨rfl, rfl, rfl, Nat.le_refl _, fun _ _ => rfl⟩
section
variable {C : World → Prop} {Q : Act → Prop} {a : Act} {o : Oper} {rest : List Oper} {ops : Array Oper}
theorem wp_region_class {id : Nat} {Q : Exit → Act → World → Prop} {w : World} {l : List Oper} (C : World → Prop) (hB : Region.lexB .any l.toArray = true) (hC : C { w with drawn := w.drawn + 1 })
    (h : wpQuiet Tryz.prog l.toArray C (fun a' => ∀ w', C w' → Q .normal a' w') l a) : (Code.region id l.toArray true).wp Tryz.prog Q a w :=
  wp_region_quiet (C := C) (by kernel_rfl) hB hC (by simpa using h)
theorem q_loadV {W : World} {g : Nat} {v : V} (hw : Region.wanted o (yielded ops a.tmps) = true) (p : Operand) (ho : o.op = .load 23 p) (hx : a.eval p = .pointer (some ⟨g, 0, none⟩))
    (h : wpQuiet Tryz.prog ops (Keeps W g v) Q rest (a.put o.dst v.val)) : wpQuiet Tryz.prog ops (Keeps W g v) Q (o :: rest) a :=
  BigFrame.wpQuiet_want hw fun _ hK => ⟨v.val, fun w hc => by
    unfold Oper.quietAt execOp
    simp only [ho, hx, Instr.loadAt, Instr.sureAddr, Sem.run_bind, Sem.run_pure, Result.andThen_ok, run_loadVar_row w g 23 23 v.cells (0, 0) _ hc.1 Tryz.underlying23 rfl (by kernel_rfl)]
    exact ⟨rfl, rfl⟩, hK _ h⟩
theorem q_any {u : Value} (hw : Region.wanted o (yielded ops a.tmps) = true) (ho : ∀ w, C w → o.quietAt Tryz.prog a C w u)
    (h : wpQuiet Tryz.prog ops C Q rest (a.put o.dst u)) : wpQuiet Tryz.prog ops C Q (o :: rest) a :=
  BigFrame.wpQuiet_want hw fun _ hK => ⟨u, ho, hK _ h⟩
end

theorem Oper.call_quiet {o : Oper} {a : Act} {C : World → Prop} {f : FuncId} {args : Array Value} {r : Value} (h : ∀ w, (execOp a.eval o).run Tryz.prog w = .ok (.enter f args) w)
    (hc : ∀ w, C w → Calls Tryz.prog f args w fun e w' => e = .returned r ∧ C w') : ∀ w, C w → o.quietAt Tryz.prog a C w r := fun w hw => by
  unfold Oper.quietAt
  rw [h w]
  exact ⟨rfl, hc w hw⟩
theorem Keeps.calls {W : World} {g : Nat} {v : V} {w : World} (hw : Keeps W g v w) {f : FuncId} {args : Array Value} {r : Value}
    (h : Calls Tryz.prog f args w fun e w' => e = .returned r ∧ Below w.heap.size w w') : Calls Tryz.prog f args w fun e w' => e = .returned r ∧ Keeps W g v w' :=
  h.mono fun _ _ ⟨he, hb⟩ => ⟨he, hw.next hb⟩
end Go.Proofs.YtphkohpphdcjhaaGreatDoor
namespace Go.Proofs.YtphkohpphdcjhaaGreatDoor
open Go.ChangeShapes Go.WideShapes Go.ChangeAt Go.RowKit

set_option maxRecDepth 100000
theorem cellTypes23 : Tryz.prog.cellTypes Tryz.prog.depth 23 = some [9, 9, 9, 9, 4, 4, 9, 9, 9, 4, 4, 9, 9, 9] := by kernel_rfl
theorem cells23 : Tryz.prog.cellsOf 23 = 14 := by kernel_rfl
theorem okWide_str {W : World} {x : Value} (h : Cell.okWide Tryz.prog W .any 0 9 x) : ∃ s : ByteArray, x = .string s ∧ s.size ≤ 9223372036854775807 := by
  simp only [Cell.okWide, Cell.ok, Tryz.underlying9] at h
  cases x <;> simp at h
  exact ⟨_, rfl, by have : IntKind.i64.max = 9223372036854775807 := by decide
                    omega⟩
theorem okWide_bl {W : World} {x : Value} (h : Cell.okWide Tryz.prog W .any 0 4 x) : ∃ b : Bool, x = .bool b := by
  simp only [Cell.okWide, Cell.ok, Tryz.underlying4] at h
  cases x <;> simp at h
  exact ⟨_, rfl⟩
theorem open_V {W : World} {x : Value} (h : Value.okWide Tryz.prog W .any 0 23 x) : ∃ v : V, x = v.val ∧ v.Sm 9223372036854775807 := by
  simp only [Value.okWide, Tryz.underlying23] at h
  obtain ⟨cs, rfl, hn, ts, ht, _, h⟩ := h
  rw [cellTypes23] at ht
  obtain rfl := (Option.some.inj ht).symm
  rw [cells23] at hn
  obtain ⟨l⟩ := cs
  obtain ⟨x0, x1, x2, x3, x4, x5, x6, x7, x8, x9, xa, xb, xc, xd, rfl⟩ : ∃ x0 x1 x2 x3 x4 x5 x6 x7 x8 x9 xa xb xc xd, l = [x0, x1, x2, x3, x4, x5, x6, x7, x8, x9, xa, xb, xc, xd] := by
    match l, hn with
    | [x0, x1, x2, x3, x4, x5, x6, x7, x8, x9, xa, xb, xc, xd], _ => exact ⟨_, _, _, _, _, _, _, _, _, _, _, _, _, _, rfl⟩
  have g : ∀ (i : Nat) (u : TypeId) (y : Value), #[x0, x1, x2, x3, x4, x5, x6, x7, x8, x9, xa, xb, xc, xd][i]? = some y → [9, 9, 9, 9, 4, 4, 9, 9, 9, 4, 4, 9, 9, 9][i % 14]? = some u → Cell.okWide Tryz.prog W .any 0 u y := by
    intro i u y hy hu
    obtain ⟨u', hu', h'⟩ := h i y hy
    simp only [List.length_cons, List.length_nil] at hu'
    rw [show (0+1+1+1+1+1+1+1+1+1+1+1+1+1+1 : Nat) = 14 from rfl, hu] at hu'
    obtain rfl := Option.some.inj hu'
    exact h'
  obtain ⟨s0, rfl, w0⟩ := okWide_str (g 0 9 _ rfl rfl)
  obtain ⟨s1, rfl, w1⟩ := okWide_str (g 1 9 _ rfl rfl)
  obtain ⟨s2, rfl, w2⟩ := okWide_str (g 2 9 _ rfl rfl)
  obtain ⟨s3, rfl, w3⟩ := okWide_str (g 3 9 _ rfl rfl)
  obtain ⟨s4, rfl⟩ := okWide_bl (g 4 4 _ rfl rfl)
  obtain ⟨s5, rfl⟩ := okWide_bl (g 5 4 _ rfl rfl)
  obtain ⟨s6, rfl, w6⟩ := okWide_str (g 6 9 _ rfl rfl)
  obtain ⟨s7, rfl, w7⟩ := okWide_str (g 7 9 _ rfl rfl)
  obtain ⟨s8, rfl, w8⟩ := okWide_str (g 8 9 _ rfl rfl)
  obtain ⟨s9, rfl⟩ := okWide_bl (g 9 4 _ rfl rfl)
  obtain ⟨sa, rfl⟩ := okWide_bl (g 10 4 _ rfl rfl)
  obtain ⟨sb, rfl, wb⟩ := okWide_str (g 11 9 _ rfl rfl)
  obtain ⟨sc, rfl, wc⟩ := okWide_str (g 12 9 _ rfl rfl)
  obtain ⟨sd, rfl, wd⟩ := okWide_str (g 13 9 _ rfl rfl)
  exact ⟨⟨s0, s1, s2, s3, s4, s5, s6, s7, s8, s9, sa, sb, sc, sd⟩, rfl, ⟨w0, w1, w2, w3, w6, w7, w8, wb, wc, wd⟩⟩
theorem flds_of {fs : Array Field} (h : Tryz.prog.underlying 23 = some (.struct fs)) : fs.toList.map (·.type) = [9, 9, 9, 9, 4, 4, 9, 9, 9, 4, 4, 9, 9, 9] := by
  have e : (match Tryz.prog.underlying 23 with | some (.struct fs) => fs.toList.map (·.type) | _ => []) = [9, 9, 9, 9, 4, 4, 9, 9, 9, 4, 4, 9, 9, 9] := by kernel_rfl
  rw [h] at e
  exact e
section
variable {H : Type} {enc : TypeId × Value → H} {W W' : World} {base : Nat} {sp sp' : Nat → Bool} {hd hd' : Bool}
theorem places_flat {n : Nat} {t : TypeId} {cs : List Value} {x : DataW H × List MemPlace} (ht : Tryz.prog.underlying t = some .string ∨ Tryz.prog.underlying t = some .bool)
    (h : DataW.trod enc Tryz.prog W base sp hd n t cs = some x) : x.2 = [] := by
  cases n with
  | zero => simp [DataW.trod] at h
  | succ n =>
    unfold DataW.trod at h
    rcases ht with ht | ht <;> rw [ht] at h
    all_goals
      split at h <;> simp_all
    all_goals
      first
        | (obtain ⟨_, rfl⟩ := h; rfl)
        | (subst h; rfl)
        | skip
theorem places_V {x : Value} {d : DataW H} {ps : List MemPlace} (h : DataW.Trod enc Tryz.prog W base sp hd 23 x d ps) : ps = [] := by
  obtain ⟨n, h⟩ := h
  obtain ⟨flds23, u23⟩ : ∃ fs, Tryz.prog.underlying 23 = some (.struct fs) := ⟨_, Tryz.underlying23⟩
  have types23 := flds_of u23
  obtain ⟨xs, m, _, he, _, hl, hf⟩ := DataW.trod_struct u23 h
  have hp : ps = xs.flatMap (·.2) := congrArg Prod.snd he
  rw [hp, List.flatMap_eq_nil_iff]
  intro y hy
  obtain ⟨i, hi, rfl⟩ := List.getElem_of_mem hy
  have hflat : ∀ f ∈ flds23, Tryz.prog.underlying f.type = some .string ∨ Tryz.prog.underlying f.type = some .bool := by
    intro f hm
    have hm' : f.type ∈ flds23.toList.map (·.type) := List.mem_map_of_mem hm.val
    rw [types23] at hm'
    simp only [List.mem_cons, List.not_mem_nil, or_false] at hm'
    rcases hm' with h | h | h | h | h | h | h | h | h | h | h | h | h | h <;> rw [h]
    all_goals first | exact .inl Tryz.underlying9 | exact .inr Tryz.underlying4
  have hi' : i < flds23.size := by rw [← hl]; exact hi
  have h1 := hf i flds23[i] (Array.getElem?_eq_getElem hi')
  rw [List.getElem?_eq_getElem hi] at h1
  exact places_flat (hflat _ (Array.getElem_mem hi')) h1
theorem shut_V {x : Value} {d : DataW H} {ps : List MemPlace} (h : DataW.Trod enc Tryz.prog W base sp hd 23 x d ps) : DataW.Trod enc Tryz.prog W' base sp' hd' 23 x d ps :=
  Trod_any laidOut (by kernel_rfl) (of_decide_eq_true (by kernel_rfl)) (by kernel_rfl) (by kernel_rfl) h (by rw [places_V h]; intro p hp; cases hp)
end
end Go.Proofs.YtphkohpphdcjhaaGreatDoor
