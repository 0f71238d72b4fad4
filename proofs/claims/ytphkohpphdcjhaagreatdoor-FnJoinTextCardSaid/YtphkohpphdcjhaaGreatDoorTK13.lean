/- Escapes of the reference; the words of a text; what the statements ask; regions in whatever order; a reference that comes in. -/
import Derived.Test.YtphkohpphdcjhaaGreatDoorTK12
import Derived.Test.YtphkohpphdcjhaaGreatDoorTK1
import Derived.Test.YtphkohpphdcjhaaGreatDoorTK8
import Derived.BigQuiet
import Derived.Deep.Modes
namespace Go.Proofs.YtphkohpphdcjhaaGreatDoor
open Go.RowKit Go.Proofs.YtphkohpphdcjhaaGreatDoorW.PrintWords
open U (L S)

set_option maxRecDepth 100000 in
set_option maxHeartbeats 3200000 in
theorem c_kept (s : ByteArray) (w : Nat) (m : Int) (P : Bool) (W : World) (hs : Sm s) (hm : m = (w : Int)) (H : Hid (U.kept w (L s) = P)) :
    Calls Tryz.prog 45 #[.string s, .int .i64 m] W fun e w' => e = .returned (.bool P) ∧ Drawn0 W w' := by
  have HM := Lib.hid hm
  clear hm
  go_enter Tryz.func45, Tryz.ntmps45
  go_wp2_with fail
  go_loopw [5, 8] (fun _ i w' => ∃ k n : Nat, k ≤ s.size ∧ i = .int .i64 k ∧ w' = W.drewN n ∧ Hid (((L s).drop k).all (U.kept1 w) = P)) (fun _ i _ => s.size - (intOf i).toNat)
  case atStart => exact ⟨0, 0, Nat.zero_le _, rfl, rfl, H⟩
  case round =>
    clear H
    obtain ⟨k, n, hk, rfl, rfl, HK⟩ := hrel
    by_cases hlt : k < s.size
    · obtain ⟨a1, HA1⟩ : ∃ b, Hid (U.among (s[k]'hlt) (L ⟨#[33, 36, 38, 39, 40, 41, 42, 43, 44, 59, 61, 58, 64, 91, 93, 37]⟩) = b) := ⟨_, rfl⟩
      obtain ⟨a2, HA2⟩ : ∃ b, Hid (U.free w (s[k]'hlt) = b) := ⟨_, rfl⟩
      have HU : Hid (U.kept1 w (s[k]'hlt) = (a1 || a2)) := by rw [← HA1.out, ← HA2.out]; rfl
      go_wp2_with fail
      refine (c_among ⟨#[33, 36, 38, 39, 40, 41, 42, 43, 44, 59, 61, 58, 64, 91, 93, 37]⟩ (s[k]'hlt) _ a1 _ (by decide) rfl HA1).mono ?_
      rintro e w1 ⟨rfl, ⟨n1, rfl⟩⟩
      cases a1
      · go_wp2_with fail
        refine (c_free (s[k]'hlt) w _ _ a2 _ rfl HM.out HA2).mono ?_
        rintro e w1 ⟨rfl, ⟨n2, rfl⟩⟩
        cases a2
        · have hP : P = false := HAll HK hlt (b := false) HU.out
          subst hP
          go_wp2_with fail
          go_ret
          exact ⟨rfl, ⟨⟨_, rfl⟩⟩⟩
        · have HP : Hid (((L s).drop (k + 1)).all (U.kept1 w) = P) := HAll HK hlt (b := true) HU.out
          go_wp2_with fail
          go_roundw
          case rel => exact ⟨k + 1, _, by omega, by go_num, rfl, HP⟩
          case measure => simp [intOf]; omega
      · have HP : Hid (((L s).drop (k + 1)).all (U.kept1 w) = P) := HAll HK hlt (b := true) HU.out
        go_wp2_with fail
        go_roundw
        case rel => exact ⟨k + 1, _, by omega, by go_num, rfl, HP⟩
        case measure => simp [intOf]; omega
    · have hP : P = true := by rw [← HK.out]; exact all_end _ s k hlt
      subst hP
      go_wp2_with fail
      go_ret
      exact ⟨rfl, ⟨⟨_, rfl⟩⟩⟩

set_option maxRecDepth 100000 in
set_option maxHeartbeats 3200000 in
theorem c_escPath (W : World) (v : V) (hv : Sm v.path ∧ Sm v.rawPath) :
    Calls Tryz.prog 19 #[v.val] W fun e w' => e = .returned (.string (S (U.escPath v))) ∧ Below W.heap.size W w' := by
  obtain ⟨r, HR⟩ : ∃ r, Hid (S (U.escPath v) = r) := ⟨_, rfl⟩
  rw [HR.out]
  obtain ⟨hsp, hsr⟩ := hv
  have hB : Below W.heap.size W (W.alloc (.cells v.cells 23)) := (Below.refl _ _).alloc (Nat.le_refl _) _
  have hI : IsV (W.alloc (.cells v.cells 23)) W.heap.size v := heap_new _ _ _ rfl
  have HB := Lib.hid hB
  have HI := Lib.hid hI
  go_enter Tryz.func19, Tryz.ntmps19
  go_upto_region 1 with fail
  change Code.wp _ _ _ _ (W.alloc (.cells v.cells 23))
  obtain ⟨W1, hW1⟩ : ∃ x, W.alloc (.cells v.cells 23) = x := ⟨_, rfl⟩
  rw [hW1] at HB HI ⊢
  obtain ⟨g, hg⟩ : ∃ g, W.heap.size = g := ⟨_, rfl⟩
  have HG := Lib.hid hg
  rw [hg] at HI ⊢
  clear hW1 hB hI hg
  have c4 : ∀ n, (W1.drewN n).cell? ⟨g, 7, none⟩ = some (.string v.path) := fun n => cell_at (w := W1.drewN n) HI.out rfl
  have c7 : ∀ n, (W1.drewN n).cell? ⟨g, 8, none⟩ = some (.string v.rawPath) := fun n => cell_at (w := W1.drewN n) HI.out rfl
  have c40 : W1.cell? ⟨g, 7, none⟩ = some (.string v.path) := cell_at HI.out rfl
  have c70 : W1.cell? ⟨g, 8, none⟩ = some (.string v.rawPath) := cell_at HI.out rfl
  obtain ⟨raw, HRA⟩ : ∃ x, Hid (v.rawPath = x) := ⟨_, rfl⟩
  obtain ⟨pa, HPA⟩ : ∃ x, Hid (v.path = x) := ⟨_, rfl⟩
  have HV : Hid (S (if U.kept? 0 (L raw) (L pa) then L raw else if L pa = [42] then [42] else U.esc 0 (L pa)) = r) := by
    rw [← HR.out, ← HRA.out, ← HPA.out]
    exact Lib.hid rfl
  rw [HPA.out] at c4 hsp c40
  rw [HRA.out] at c7 hsr c70
  obtain ⟨o, HO⟩ : ∃ o, Hid (U.unesc 0 (L raw) = o) := ⟨_, rfl⟩
  obtain ⟨k, HK⟩ : ∃ o, Hid (U.kept 0 (L raw) = o) := ⟨_, rfl⟩
  clear HR HRA HPA
  by_cases hA : U.kept? 0 (L raw) (L pa) = true
  · have hr : r = raw := by rw [← HV.out, if_pos hA, U.S_L]
    subst hr
    simp only [U.kept?, Bool.and_eq_true, beq_iff_eq, Bool.not_eq_true'] at hA
    obtain ⟨⟨h1, h2⟩, h3⟩ := hA
    have hne : (r.toList == []) = false := by rw [U.toList_L]; cases h : L r with
      | nil => rw [h] at h1; simp at h1
      | cons a b => rfl
    obtain rfl : k = true := by rw [← HK.out, h2]
    obtain rfl : o = some (L pa) := by rw [← HO.out, h3]
    clear h1 h2 h3
    go_wp2_with fail
    refine (c_kept r 0 0 true _ hsr rfl HK).mono ?_
    rintro e w1 ⟨rfl, ⟨n1, rfl⟩⟩
    go_wp2_with fail
    refine (c_Unescape r pa 0 0 _ hsr rfl HO).mono ?_
    rintro e w1 ⟨rfl, b1⟩
    have hI1 := (HI.out.drewN n1).keep b1
    have hb : w1.cell? ⟨g, 7, none⟩ = some (.string pa) := (b1.cell (p := ⟨g, 7, none⟩) (heap_lt HI.out)).trans (c4 n1)
    have hb7 : w1.cell? ⟨g, 8, none⟩ = some (.string r) := (b1.cell (p := ⟨g, 8, none⟩) (heap_lt HI.out)).trans (c7 n1)
    have B1 : Hid (Below W.heap.size W w1) := Lib.hid ((below_n HB.out n1).trans (b1.mono HB.out.size))
    clear b1 c4 c7 c40 c70 hI1
    go_wp2_with fail
    go_ret
    exact ⟨rfl, B1.out⟩
  · have HV2 : Hid (S (if L pa = [42] then [42] else U.esc 0 (L pa)) = r) := by rw [← HV.out, if_neg hA]; exact Lib.hid rfl
    obtain ⟨st, hst⟩ : ∃ b, (pa.toList == [42]) = b := ⟨_, rfl⟩
    have HE : Hid (if st = true then r = ⟨#[42]⟩ else S (U.esc 0 (L pa)) = r) := by
      rw [← hst]
      by_cases h : L pa = [42]
      · rw [if_pos (by rw [U.toList_L]; simpa using h), ← HV2.out, if_pos h]
        rfl
      · rw [if_neg (by rw [U.toList_L]; simpa using h), ← HV2.out, if_neg h]
        rfl
    clear HV HV2
    by_cases hr : L raw = []
    · have h1 : raw.toList = [] := by rw [U.toList_L]; exact hr
      clear hr hA HO HK
      cases st
      · have h2 : U.esc 0 (L pa) = L r := by have := HE.out; rw [if_neg (by decide)] at this; rw [← this]; rfl
        have H2 := Lib.hid h2
        clear h2 HE
        go_wp2_with fail
        refine (c_Escape pa r 0 0 _ hsp rfl H2).mono ?_
        rintro e w2 ⟨rfl, b2⟩
        go_wp2_with fail
        go_ret
        exact ⟨rfl, HB.out.trans (b2.mono HB.out.size)⟩
      · have h2 : r = ⟨#[42]⟩ := by have := HE.out; simpa using this
        have H2 := Lib.hid h2
        clear h2 HE
        go_wp2_with fail
        go_ret
        rw [H2.out]
        exact ⟨rfl, HB.out⟩
    have h1 : (raw.toList == []) = false := by rw [U.toList_L]; simpa using hr
    have HNE : Hid (¬ L raw = []) := Lib.hid hr
    clear hr
    cases k
    · clear hA HO
      cases st
      · have h2 : U.esc 0 (L pa) = L r := by have := HE.out; rw [if_neg (by decide)] at this; rw [← this]; rfl
        have H2 := Lib.hid h2
        clear h2 HE
        go_wp2_with fail
        refine (c_kept raw 0 0 false _ hsr rfl HK).mono ?_
        rintro e w1 ⟨rfl, ⟨n1, rfl⟩⟩
        go_wp2_with fail
        refine (c_Escape pa r 0 0 _ hsp rfl H2).mono ?_
        rintro e w2 ⟨rfl, b2⟩
        go_wp2_with fail
        go_ret
        exact ⟨rfl, (below_n HB.out n1).trans (b2.mono HB.out.size)⟩
      · have h2 : r = ⟨#[42]⟩ := by have := HE.out; simpa using this
        have H2 := Lib.hid h2
        clear h2 HE
        go_wp2_with fail
        refine (c_kept raw 0 0 false _ hsr rfl HK).mono ?_
        rintro e w1 ⟨rfl, ⟨n1, rfl⟩⟩
        go_wp2_with fail
        go_ret
        rw [H2.out]
        exact ⟨rfl, below_n HB.out n1⟩
    cases o with
    | none =>
      clear hA
      cases st
      · have h2 : U.esc 0 (L pa) = L r := by have := HE.out; rw [if_neg (by decide)] at this; rw [← this]; rfl
        have H2 := Lib.hid h2
        clear h2 HE
        go_wp2_with fail
        refine (c_kept raw 0 0 true _ hsr rfl HK).mono ?_
        rintro e w1 ⟨rfl, ⟨n1, rfl⟩⟩
        go_wp2_with fail
        refine (c_Unescape_no raw 0 0 _ hsr rfl HO).mono ?_
        rintro e w1 ⟨rfl, b1⟩
        have hb : w1.cell? ⟨g, 7, none⟩ = some (.string pa) := (b1.cell (p := ⟨g, 7, none⟩) (heap_lt HI.out)).trans (c4 n1)
        have B1 : Hid (Below W.heap.size W w1) := Lib.hid ((below_n HB.out n1).trans (b1.mono HB.out.size))
        clear b1 c4 c7 c40 c70
        go_wp2_with fail
        refine (c_Escape pa r 0 0 _ hsp rfl H2).mono ?_
        rintro e w2 ⟨rfl, b2⟩
        go_wp2_with fail
        go_ret
        exact ⟨rfl, B1.out.trans (b2.mono B1.out.size)⟩
      · have h2 : r = ⟨#[42]⟩ := by have := HE.out; simpa using this
        have H2 := Lib.hid h2
        clear h2 HE
        go_wp2_with fail
        refine (c_kept raw 0 0 true _ hsr rfl HK).mono ?_
        rintro e w1 ⟨rfl, ⟨n1, rfl⟩⟩
        go_wp2_with fail
        refine (c_Unescape_no raw 0 0 _ hsr rfl HO).mono ?_
        rintro e w1 ⟨rfl, b1⟩
        have hb : w1.cell? ⟨g, 7, none⟩ = some (.string pa) := (b1.cell (p := ⟨g, 7, none⟩) (heap_lt HI.out)).trans (c4 n1)
        have B1 : Hid (Below W.heap.size W w1) := Lib.hid ((below_n HB.out n1).trans (b1.mono HB.out.size))
        clear b1 c4 c7 c40 c70
        go_wp2_with fail
        go_ret
        rw [H2.out]
        exact ⟨rfl, B1.out⟩
    | some p =>
      have hp : ((S p).toList == pa.toList) = false := by
        rw [U.toList_L, U.toList_L, U.L_S, beq_eq_false_iff_ne]
        intro e
        apply hA
        simp only [U.kept?, Bool.and_eq_true, beq_iff_eq, Bool.not_eq_true']
        refine ⟨⟨?_, HK.out⟩, by rw [HO.out, e]⟩
        cases h : L raw with
        | nil => exact absurd h HNE.out
        | cons a b => rfl
      clear hA
      cases st
      · have h2 : U.esc 0 (L pa) = L r := by have := HE.out; rw [if_neg (by decide)] at this; rw [← this]; rfl
        have H2 := Lib.hid h2
        clear h2 HE
        go_wp2_with fail
        refine (c_kept raw 0 0 true _ hsr rfl HK).mono ?_
        rintro e w1 ⟨rfl, ⟨n1, rfl⟩⟩
        go_wp2_with fail
        refine (c_Unescape raw (S p) 0 0 _ hsr rfl HO).mono ?_
        rintro e w1 ⟨rfl, b1⟩
        have hb : w1.cell? ⟨g, 7, none⟩ = some (.string pa) := (b1.cell (p := ⟨g, 7, none⟩) (heap_lt HI.out)).trans (c4 n1)
        have B1 : Hid (Below W.heap.size W w1) := Lib.hid ((below_n HB.out n1).trans (b1.mono HB.out.size))
        clear b1 c4 c7 c40 c70
        go_wp2_with fail
        refine (c_Escape pa r 0 0 _ hsp rfl H2).mono ?_
        rintro e w2 ⟨rfl, b2⟩
        go_wp2_with fail
        go_ret
        exact ⟨rfl, B1.out.trans (b2.mono B1.out.size)⟩
      · have h2 : r = ⟨#[42]⟩ := by have := HE.out; simpa using this
        have H2 := Lib.hid h2
        clear h2 HE
        go_wp2_with fail
        refine (c_kept raw 0 0 true _ hsr rfl HK).mono ?_
        rintro e w1 ⟨rfl, ⟨n1, rfl⟩⟩
        go_wp2_with fail
        refine (c_Unescape raw (S p) 0 0 _ hsr rfl HO).mono ?_
        rintro e w1 ⟨rfl, b1⟩
        have hb : w1.cell? ⟨g, 7, none⟩ = some (.string pa) := (b1.cell (p := ⟨g, 7, none⟩) (heap_lt HI.out)).trans (c4 n1)
        have B1 : Hid (Below W.heap.size W w1) := Lib.hid ((below_n HB.out n1).trans (b1.mono HB.out.size))
        clear b1 c4 c7 c40 c70
        go_wp2_with fail
        go_ret
        rw [H2.out]
        exact ⟨rfl, B1.out⟩

set_option maxRecDepth 100000 in
set_option maxHeartbeats 3200000 in
theorem c_escFrag (W : World) (v : V) (hv : Sm v.fragment ∧ Sm v.rawFragment) :
    Calls Tryz.prog 21 #[v.val] W fun e w' => e = .returned (.string (S (U.escFrag v))) ∧ Below W.heap.size W w' := by
  obtain ⟨r, HR⟩ : ∃ r, Hid (S (U.escFrag v) = r) := ⟨_, rfl⟩
  rw [HR.out]
  obtain ⟨hsp, hsr⟩ := hv
  have hB : Below W.heap.size W (W.alloc (.cells v.cells 23)) := (Below.refl _ _).alloc (Nat.le_refl _) _
  have hI : IsV (W.alloc (.cells v.cells 23)) W.heap.size v := heap_new _ _ _ rfl
  have HB := Lib.hid hB
  have HI := Lib.hid hI
  go_enter Tryz.func21, Tryz.ntmps21
  go_upto_region 1 with fail
  change Code.wp _ _ _ _ (W.alloc (.cells v.cells 23))
  obtain ⟨W1, hW1⟩ : ∃ x, W.alloc (.cells v.cells 23) = x := ⟨_, rfl⟩
  rw [hW1] at HB HI ⊢
  obtain ⟨g, hg⟩ : ∃ g, W.heap.size = g := ⟨_, rfl⟩
  have HG := Lib.hid hg
  rw [hg] at HI ⊢
  clear hW1 hB hI hg
  have c4 : ∀ n, (W1.drewN n).cell? ⟨g, 12, none⟩ = some (.string v.fragment) := fun n => cell_at (w := W1.drewN n) HI.out rfl
  have c7 : ∀ n, (W1.drewN n).cell? ⟨g, 13, none⟩ = some (.string v.rawFragment) := fun n => cell_at (w := W1.drewN n) HI.out rfl
  have c40 : W1.cell? ⟨g, 12, none⟩ = some (.string v.fragment) := cell_at HI.out rfl
  have c70 : W1.cell? ⟨g, 13, none⟩ = some (.string v.rawFragment) := cell_at HI.out rfl
  obtain ⟨raw, HRA⟩ : ∃ x, Hid (v.rawFragment = x) := ⟨_, rfl⟩
  obtain ⟨pa, HPA⟩ : ∃ x, Hid (v.fragment = x) := ⟨_, rfl⟩
  have HV : Hid (S (if U.kept? 3 (L raw) (L pa) then L raw else U.esc 3 (L pa)) = r) := by
    rw [← HR.out, ← HRA.out, ← HPA.out]
    exact Lib.hid rfl
  rw [HPA.out] at c4 hsp c40
  rw [HRA.out] at c7 hsr c70
  obtain ⟨o, HO⟩ : ∃ o, Hid (U.unesc 3 (L raw) = o) := ⟨_, rfl⟩
  obtain ⟨k, HK⟩ : ∃ o, Hid (U.kept 3 (L raw) = o) := ⟨_, rfl⟩
  clear HR HRA HPA
  by_cases hA : U.kept? 3 (L raw) (L pa) = true
  · have hr : r = raw := by rw [← HV.out, if_pos hA, U.S_L]
    subst hr
    simp only [U.kept?, Bool.and_eq_true, beq_iff_eq, Bool.not_eq_true'] at hA
    obtain ⟨⟨h1, h2⟩, h3⟩ := hA
    have hne : (r.toList == []) = false := by rw [U.toList_L]; cases h : L r with
      | nil => rw [h] at h1; simp at h1
      | cons a b => rfl
    obtain rfl : k = true := by rw [← HK.out, h2]
    obtain rfl : o = some (L pa) := by rw [← HO.out, h3]
    clear h1 h2 h3
    go_wp2_with fail
    refine (c_kept r 3 3 true _ hsr rfl HK).mono ?_
    rintro e w1 ⟨rfl, ⟨n1, rfl⟩⟩
    go_wp2_with fail
    refine (c_Unescape r pa 3 3 _ hsr rfl HO).mono ?_
    rintro e w1 ⟨rfl, b1⟩
    have hI1 := (HI.out.drewN n1).keep b1
    have hb : w1.cell? ⟨g, 12, none⟩ = some (.string pa) := (b1.cell (p := ⟨g, 12, none⟩) (heap_lt HI.out)).trans (c4 n1)
    have hb7 : w1.cell? ⟨g, 13, none⟩ = some (.string r) := (b1.cell (p := ⟨g, 13, none⟩) (heap_lt HI.out)).trans (c7 n1)
    have B1 : Hid (Below W.heap.size W w1) := Lib.hid ((below_n HB.out n1).trans (b1.mono HB.out.size))
    clear b1 c4 c7 c40 c70 hI1
    go_wp2_with fail
    go_ret
    exact ⟨rfl, B1.out⟩
  · have HV2 : Hid (S (U.esc 3 (L pa)) = r) := by rw [← HV.out, if_neg hA]; exact Lib.hid rfl
    have H2 : Hid (U.esc 3 (L pa) = L r) := by rw [← HV2.out]; exact Lib.hid rfl
    clear HV HV2
    by_cases hr : L raw = []
    · have h1 : raw.toList = [] := by rw [U.toList_L]; exact hr
      clear hr hA HO HK
      go_wp2_with fail
      refine (c_Escape pa r 3 3 _ hsp rfl H2).mono ?_
      rintro e w2 ⟨rfl, b2⟩
      go_wp2_with fail
      go_ret
      exact ⟨rfl, HB.out.trans (b2.mono HB.out.size)⟩
    have h1 : (raw.toList == []) = false := by rw [U.toList_L]; simpa using hr
    have HNE : Hid (¬ L raw = []) := Lib.hid hr
    clear hr
    cases k
    · clear hA HO
      go_wp2_with fail
      refine (c_kept raw 3 3 false _ hsr rfl HK).mono ?_
      rintro e w1 ⟨rfl, ⟨n1, rfl⟩⟩
      go_wp2_with fail
      refine (c_Escape pa r 3 3 _ hsp rfl H2).mono ?_
      rintro e w2 ⟨rfl, b2⟩
      go_wp2_with fail
      go_ret
      exact ⟨rfl, (below_n HB.out n1).trans (b2.mono HB.out.size)⟩
    cases o with
    | none =>
      clear hA
      go_wp2_with fail
      refine (c_kept raw 3 3 true _ hsr rfl HK).mono ?_
      rintro e w1 ⟨rfl, ⟨n1, rfl⟩⟩
      go_wp2_with fail
      refine (c_Unescape_no raw 3 3 _ hsr rfl HO).mono ?_
      rintro e w1 ⟨rfl, b1⟩
      have hb : w1.cell? ⟨g, 12, none⟩ = some (.string pa) := (b1.cell (p := ⟨g, 12, none⟩) (heap_lt HI.out)).trans (c4 n1)
      have B1 : Hid (Below W.heap.size W w1) := Lib.hid ((below_n HB.out n1).trans (b1.mono HB.out.size))
      clear b1 c4 c7 c40 c70
      go_wp2_with fail
      refine (c_Escape pa r 3 3 _ hsp rfl H2).mono ?_
      rintro e w2 ⟨rfl, b2⟩
      go_wp2_with fail
      go_ret
      exact ⟨rfl, B1.out.trans (b2.mono B1.out.size)⟩
    | some p =>
      have hp : ((S p).toList == pa.toList) = false := by
        rw [U.toList_L, U.toList_L, U.L_S, beq_eq_false_iff_ne]
        intro e
        apply hA
        simp only [U.kept?, Bool.and_eq_true, beq_iff_eq, Bool.not_eq_true']
        refine ⟨⟨?_, HK.out⟩, by rw [HO.out, e]⟩
        cases h : L raw with
        | nil => exact absurd h HNE.out
        | cons a b => rfl
      clear hA
      go_wp2_with fail
      refine (c_kept raw 3 3 true _ hsr rfl HK).mono ?_
      rintro e w1 ⟨rfl, ⟨n1, rfl⟩⟩
      go_wp2_with fail
      refine (c_Unescape raw (S p) 3 3 _ hsr rfl HO).mono ?_
      rintro e w1 ⟨rfl, b1⟩
      have hb : w1.cell? ⟨g, 12, none⟩ = some (.string pa) := (b1.cell (p := ⟨g, 12, none⟩) (heap_lt HI.out)).trans (c4 n1)
      have B1 : Hid (Below W.heap.size W w1) := Lib.hid ((below_n HB.out n1).trans (b1.mono HB.out.size))
      clear b1 c4 c7 c40 c70
      go_wp2_with fail
      refine (c_Escape pa r 3 3 _ hsp rfl H2).mono ?_
      rintro e w2 ⟨rfl, b2⟩
      go_wp2_with fail
      go_ret
      exact ⟨rfl, B1.out.trans (b2.mono B1.out.size)⟩
end Go.Proofs.YtphkohpphdcjhaaGreatDoor
namespace Go.Proofs.YtphkohpphdcjhaaGreatDoor
open Go.RowKit Go.Proofs.YtphkohpphdcjhaaGreatDoorW.PrintWords
open U (L S)

/-- What a request asks for ahead of the query. -/
def askFront (v : V) : U.B :=
  if L v.opq = [] then (if U.escPath v = [] then [47] else U.escPath v) else if (L v.opq).take 2 = [47, 47] then L v.scheme ++ [58] ++ L v.opq else L v.opq
/-- The query behind it. -/
def askTail (v : V) : U.B := if v.forceQuery = true ∨ L v.rawQuery ≠ [] then 63 :: L v.rawQuery else []
theorem request_is (v : V) : U.request v = askFront v ++ askTail v := rfl
theorem two_slashes (s : ByteArray) (b : Bool) (H : Hid (decide ((L s).take 2 = [47, 47]) = b)) : (¬ (2 : Int) ≤ (s.size : Int) ∧ b = false) ∨ ((2 : Int) ≤ (s.size : Int) ∧ ((s.extract 0 2).toList == [47, 47]) = b) := by
  by_cases h : (2 : Int) ≤ (s.size : Int)
  · refine .inr ⟨h, ?_⟩
    rw [← H.out, U.toList_L, U.ext_to, U.L_S]
    show ((L s).take 2 == [47, 47]) = decide ((L s).take 2 = [47, 47])
    rw [Bool.eq_iff_iff]
    simp
  · refine .inl ⟨h, ?_⟩
    rw [← H.out]
    simp only [decide_eq_false_iff_not]
    intro e
    have := congrArg List.length e
    rw [List.length_take, U.len_L] at this
    simp at this
    omega
theorem empty_ways (s : ByteArray) : (L s = [] ∧ s.toList = []) ∨ (L s ≠ [] ∧ (s.toList == []) = false) := by
  rw [U.toList_L]
  by_cases h : L s = []
  · exact .inl ⟨h, h⟩
  · exact .inr ⟨h, by simpa using h⟩
/-- Is a text empty? -/
def em (s : ByteArray) : Bool := decide (L s = [])
theorem em_ways (s : ByteArray) (b : Bool) (H : Hid (em s = b)) : (b = true ∧ s.toList = []) ∨ (b = false ∧ (s.toList == []) = false) := by
  rcases empty_ways s with ⟨h, e⟩ | ⟨h, e⟩
  · exact .inl ⟨by rw [← H.out, em, decide_eq_true h], e⟩
  · exact .inr ⟨by rw [← H.out, em, decide_eq_false h], e⟩
/-- A slot holds a text that is l, of at most n bytes; nothing of W has changed. -/
def StrAt (l : U.B) (n : Nat) (W : World) (t : Value) (w : World) : Prop := ∃ a : ByteArray, t = .string a ∧ L a = l ∧ a.size ≤ n ∧ Below W.heap.size W w
/-- The parts of a text, told by what is empty. -/
def tScheme (v : V) (es : Bool) : U.B := if es = true then [] else L v.scheme ++ [58]
def tAuth (v : V) (c7 : Bool) : U.B := (if c7 = true then [47, 47] else []) ++ ((if v.hasUser = true then U.userText v ++ [64] else []) ++ U.esc 2 (L v.host))
def tFront (v : V) (es c6 c7 : Bool) : U.B := tScheme v es ++ (if c6 = true then tAuth v c7 else [])
theorem front_is (v : V) (es eh ep c6 c7 : Bool) (h1 : em v.scheme = es) (h2 : em v.host = eh) (h3 : em v.path = ep)
    (h6 : ((!es || !eh || v.hasUser) && (!v.omitHost || !eh || v.hasUser)) = c6) (h7 : (!eh || !ep || v.hasUser) = c7) : U.front v = tFront v es c6 c7 := by
  subst h1 h2 h3 h6 h7
  unfold U.front tFront tScheme tAuth em
  congr 1
  · by_cases h : L v.scheme = [] <;> simp [h]
  · simp only [Bool.and_eq_true, Bool.or_eq_true, Bool.not_eq_true', decide_eq_false_iff_not, or_assoc, ne_eq, List.append_assoc]

/-- The path's part: a slash between, a dot ahead, the path. -/
def tSlash (v : V) (f : U.B) (q : ByteArray) : U.B := f ++ (if L q ≠ [] ∧ (L q).head? ≠ some 47 ∧ L v.host ≠ [] then [47] else [])
def tDot (f : U.B) (q : ByteArray) : U.B := if f = [] ∧ U.among 58 (U.cut 47 (L q)).1 = true then [46, 47] else f
def tPath (v : V) (q : ByteArray) : U.B := if U.bare v = true ∧ (L q).take 2 = [47, 47] then [37, 50, 70] ++ (L q).drop 1 else L q
def tBody (v : V) (es eo : Bool) (q : ByteArray) : U.B := if eo = true then tDot (tSlash v (U.front v) q) q ++ tPath v q else tScheme v es ++ L v.opq
theorem text_is (v : V) (es eo : Bool) (q : ByteArray) (h1 : em v.scheme = es) (h2 : em v.opq = eo) (hq : U.escPath v = L q) : U.text v = (tBody v es eo q ++ askTail v) ++ (if L v.fragment ≠ [] then 35 :: U.escFrag v else []) := by
  subst h1 h2
  unfold U.text tBody U.tail U.midText tDot tSlash tPath tScheme em askTail
  rw [hq]
  by_cases h : L v.opq = []
  · simp [h]
  · by_cases h' : L v.scheme = [] <;> simp [h, h']
theorem len_S {l : U.B} : (S l).size = l.length := by rw [← U.len_L, U.L_S]
theorem len_esc (w : Nat) (s : ByteArray) : (U.esc w (L s)).length ≤ 3 * s.size := by rw [← U.len_L]; exact U.esc_len w _

end Go.Proofs.YtphkohpphdcjhaaGreatDoor
namespace Go.Proofs.YtphkohpphdcjhaaGreatDoor
open U (L S)
theorem among_nil (c : UInt8) : U.among c [] = false := rfl
theorem cut_slash (l : U.B) (h : l.head? = some 47) : (U.cut 47 l).1 = [] := by
  match l, h with
  | c :: r, h => 
    simp at h
    subst h
    simp [U.cut, U.idx]
/-- With no host and two slashes ahead. -/
theorem hidden_slash (v : V) (f : U.B) (q q' : ByteArray) (hb : U.bare v = true ∧ (L q).take 2 = [47, 47]) (hq : L q' = (L q).drop 1) :
    tDot (tSlash v f q) q ++ tPath v q = tDot (tSlash v (f ++ [37, 50, 70]) q') q' ++ L q' := by
  have hh : L v.host = [] := by
    have := hb.1
    simp only [U.bare, Bool.and_eq_true, List.isEmpty_iff] at this
    exact this.1.2
  have hd : (L q).head? = some 47 := by
    have := congrArg List.head? hb.2
    rw [List.head?_take] at this
    simpa using this
  have e1 : tSlash v f q = f := by unfold tSlash; rw [if_neg (fun h => h.2.2 hh), List.append_nil]
  have e2 : tSlash v (f ++ [37, 50, 70]) q' = f ++ [37, 50, 70] := by unfold tSlash; rw [if_neg (fun h => h.2.2 hh), List.append_nil]
  have e3 : tDot f q = f := by
    unfold tDot
    rw [if_neg]
    rintro ⟨_, h⟩
    rw [cut_slash _ hd, among_nil] at h
    cases h
  have e4 : tDot (f ++ [37, 50, 70]) q' = f ++ [37, 50, 70] := by
    unfold tDot
    rw [if_neg]
    rintro ⟨h, _⟩
    simp at h
  rw [e1, e2, e3, e4, tPath, if_pos hb, hq, List.append_assoc]
end Go.Proofs.YtphkohpphdcjhaaGreatDoor
namespace Go.Proofs.YtphkohpphdcjhaaGreatDoor
open U (L S)
namespace U
/-- One element, as the package takes it. -/
def iBack (o : B) : B := if 0 ≤ lastI 47 (o.drop 1) then o.take ((lastI 47 (o.drop 1)).toNat + 1) else o.take 1
def iStep (st : B × Bool) (e : B) : B × Bool :=
  if e = [46] then (st.1, false)
  else if e = [46, 46] then (iBack st.1, decide ((iBack st.1).length = 1))
  else ((if st.2 then st.1 else st.1 ++ [47]) ++ e, false)
/-- What is written begins with a slash; it is nothing else where nothing is written. -/
def Led (st : B × Bool) : Prop := (∃ t, st.1 = 47 :: t) ∧ (st.2 = true → st.1 = [47])
theorem iStep_is {st : B × Bool} (h : Led st) (e : B) : iStep st e = jStep st e ∧ Led (jStep st e) := by
  obtain ⟨o, f⟩ := st
  obtain ⟨⟨t, ht⟩, hf⟩ := h
  simp only at ht hf
  subst ht
  unfold iStep jStep
  by_cases h1 : e = [46]
  · rw [if_pos h1, if_pos h1]
    exact ⟨rfl, ⟨t, rfl⟩, fun h => by cases h⟩
  · rw [if_neg h1, if_neg h1]
    by_cases h2 : e = [46, 46]
    · rw [if_pos h2, if_pos h2]
      have hlt := lastI_lt 47 t
      simp only [iBack, List.drop_succ_cons, List.drop_zero]
      by_cases h3 : 0 < lastI 47 t
      · have hff : f = false := by
          cases f
          · rfl
          · have := hf rfl
            simp only [List.cons.injEq, true_and] at this
            rw [this] at h3
            exact absurd h3 (by decide)
        subst hff
        rw [if_pos (by omega), if_pos h3, Nat.add_comm]
        refine ⟨?_, ?_⟩
        · congr 1
          rw [List.length_take, List.length_cons]
          exact decide_eq_false (by omega)
        · refine ⟨⟨t.take (lastI 47 t).toNat, by rw [Nat.add_comm, List.take_succ_cons]⟩, fun h => by cases h⟩
      · rw [if_neg h3]
        by_cases h4 : 0 ≤ lastI 47 t
        · rw [if_pos h4, show (lastI 47 t).toNat = 0 by omega]
          exact ⟨rfl, ⟨[], rfl⟩, fun _ => rfl⟩
        · rw [if_neg h4]
          exact ⟨rfl, ⟨[], rfl⟩, fun _ => rfl⟩
    · rw [if_neg h2, if_neg h2]
      refine ⟨rfl, ?_, fun h => by cases h⟩
      cases f
      · exact ⟨t ++ [47] ++ e, by simp⟩
      · exact ⟨t ++ e, by simp⟩
theorem led_start : Led ([47], true) := ⟨⟨[], rfl⟩, fun _ => rfl⟩
end U
end Go.Proofs.YtphkohpphdcjhaaGreatDoor
namespace Go.Proofs.YtphkohpphdcjhaaGreatDoor
open Go.RowKit Go.Proofs.YtphkohpphdcjhaaGreatDoorW.PrintWords Go.Proofs.YtphkohpphdcjhaaGreatDoorW.PrintLast
open U (L S)

/-- A bool that tells P. -/
def Tells (W : World) (P : Prop) (e : Ending) (w' : World) : Prop := ∃ b, e = .returned (.bool b) ∧ (b = true → P) ∧ Below W.heap.size W w'
theorem V.Sm.mono {n m : Nat} {v : V} (h : v.Sm n) (hm : n ≤ m) : v.Sm m :=
  ⟨Nat.le_trans h.scheme hm, Nat.le_trans h.opq hm, Nat.le_trans h.user hm, Nat.le_trans h.pass hm, Nat.le_trans h.host hm, Nat.le_trans h.path hm, Nat.le_trans h.rawPath hm, Nat.le_trans h.rawQuery hm, Nat.le_trans h.fragment hm, Nat.le_trans h.rawFragment hm⟩

set_option maxRecDepth 100000 in
set_option maxHeartbeats 3200000 in
theorem c_zzFits (v : V) (W : World) (hv : v.Sm 9223372036854775807) : Calls Tryz.prog 16 #[v.val] W (Tells W (v.Sm 2147483647)) := by
  have h0 := hv.scheme
  have h1 := hv.opq
  have h2 := hv.user
  have h3 := hv.pass
  have h4 := hv.host
  have h5 := hv.path
  have h6 := hv.rawPath
  have h7 := hv.rawQuery
  have h8 := hv.fragment
  have h9 := hv.rawFragment
  clear hv
  go_enter Tryz.func16, Tryz.ntmps16
  go_wp2_with fail
  all_goals go_ret
  all_goals first
    | exact ⟨false, rfl, fun h => by simp at h, (Below.refl _ _).alloc (Nat.le_refl _) _⟩
    | exact ⟨true, rfl, fun _ => ⟨by omega, by omega, by omega, by omega, by omega, by omega, by omega, by omega, by omega, by omega⟩, (Below.refl _ _).alloc (Nat.le_refl _) _⟩

theorem empty_way (s : ByteArray) : (L s = [] ∧ s.toList = []) ∨ (L s ≠ [] ∧ (s.toList == []) = false) := by
  rw [U.toList_L]
  by_cases h : L s = []
  · exact .inl ⟨h, h⟩
  · exact .inr ⟨h, by simpa using h⟩
/-- Whether a reference is short and its user's name and password are marked where they are. -/
def shortB (v : V) : Bool :=
  decide ((v.scheme.size : Int) + v.opq.size + v.user.size + v.pass.size + v.host.size + v.path.size + v.rawPath.size + v.rawQuery.size + v.fragment.size + v.rawFragment.size ≤ 300) &&
    ((v.hasUser || (v.user.toList == [] && !v.hasPass)) && (v.hasPass || v.pass.toList == []))
theorem shortB_ok {v : V} (h : shortB v = true) : v.Sm 300 ∧ v.fair := by
  simp only [shortB, Bool.and_eq_true, decide_eq_true_eq] at h
  obtain ⟨hs, h1, h2⟩ := h
  refine ⟨⟨by omega, by omega, by omega, by omega, by omega, by omega, by omega, by omega, by omega, by omega⟩, fun hu => ?_, fun hp => ?_⟩
  · rw [hu] at h1
    simp only [Bool.false_or, Bool.and_eq_true, beq_iff_eq, Bool.not_eq_true'] at h1
    exact ⟨by rw [← U.toList_L]; exact h1.1, h1.2⟩
  · rw [hp] at h2
    simp only [Bool.false_or, beq_iff_eq] at h2
    rw [← U.toList_L]; exact h2
set_option maxRecDepth 100000 in
set_option maxHeartbeats 6400000 in
theorem c_short (v : V) (W : World) (hv : v.Sm 2147483647) : Calls Tryz.prog 17 #[v.val] W fun e w' => e = .returned (.bool (shortB v)) ∧ Below W.heap.size W w' := by
  have h0 := hv.scheme
  have h1 := hv.opq
  have h2 := hv.user
  have h3 := hv.pass
  have h4 := hv.host
  have h5 := hv.path
  have h6 := hv.rawPath
  have h7 := hv.rawQuery
  have h8 := hv.fragment
  have h9 := hv.rawFragment
  clear hv
  have hB : Below W.heap.size W (W.alloc (.cells v.cells 23)) := (Below.refl _ _).alloc (Nat.le_refl _) _
  have hI : IsV (W.alloc (.cells v.cells 23)) W.heap.size v := heap_new _ _ _ rfl
  have HB := Lib.hid hB
  have HI := Lib.hid hI
  clear hB hI
  obtain ⟨hu, HU⟩ : ∃ b, Hid (v.hasUser = b) := ⟨_, rfl⟩
  obtain ⟨hp, HP⟩ : ∃ b, Hid (v.hasPass = b) := ⟨_, rfl⟩
  go_enter Tryz.func17, Tryz.ntmps17
  go_upto_region 2 with fail
  change Code.wp _ _ _ _ (W.alloc (.cells v.cells 23))
  obtain ⟨W1, hW1⟩ : ∃ x, W.alloc (.cells v.cells 23) = x := ⟨_, rfl⟩
  rw [hW1] at HB HI ⊢
  clear hW1
  have c2 : W1.cell? ⟨W.heap.size, 2, none⟩ = some (.string v.user) := cell_at HI.out rfl
  have c3 : W1.cell? ⟨W.heap.size, 3, none⟩ = some (.string v.pass) := cell_at HI.out rfl
  have c4 : W1.cell? ⟨W.heap.size, 4, none⟩ = some (.bool v.hasUser) := cell_at HI.out rfl
  have c5 : W1.cell? ⟨W.heap.size, 5, none⟩ = some (.bool v.hasPass) := cell_at HI.out rfl
  rw [HU.out] at c4
  rw [HP.out] at c5
  by_cases hs : (v.scheme.size : Int) + v.opq.size + v.user.size + v.pass.size + v.host.size + v.path.size + v.rawPath.size + v.rawQuery.size + v.fragment.size + v.rawFragment.size ≤ 300
  · clear h0 h1 h2 h3 h4 h5 h6 h7 h8 h9
    cases hu
    · rcases empty_way v.user with ⟨u1, u2⟩ | ⟨u1, u2⟩
      · rcases empty_way v.pass with ⟨p1, p2⟩ | ⟨p1, p2⟩
        · cases hp
          · clear u1 p1
            go_wp2_with fail
            go_ret
            exact ⟨by simp [shortB, HU.out, HP.out, *], HB.out⟩
          · clear u1 p1
            go_wp2_with fail
            go_ret
            exact ⟨by simp [shortB, HU.out, HP.out, *], HB.out⟩
        · clear u1 p1
          go_wp2_with fail
          go_ret
          exact ⟨by simp [shortB, HU.out, HP.out, *], HB.out⟩
      · clear u1
        go_wp2_with fail
        go_ret
        exact ⟨by simp [shortB, HU.out, HP.out, *], HB.out⟩
    · cases hp
      · rcases empty_way v.pass with ⟨p1, p2⟩ | ⟨p1, p2⟩
        · clear p1
          go_wp2_with fail
          go_ret
          exact ⟨by simp [shortB, HU.out, HP.out, *], HB.out⟩
        · clear p1
          go_wp2_with fail
          go_ret
          exact ⟨by simp [shortB, HU.out, HP.out, *], HB.out⟩
      · go_wp2_with fail
        go_ret
        exact ⟨by simp [shortB, HU.out, HP.out, *], HB.out⟩
  · have hd : shortB v = false := by
      simp only [shortB, Bool.and_eq_false_iff, decide_eq_false_iff_not]
      left; omega
    go_wp2_with fail
    go_ret
    exact ⟨by first | rfl | rw [hd], HB.out⟩
end Go.Proofs.YtphkohpphdcjhaaGreatDoor
namespace Go.Proofs.YtphkohpphdcjhaaGreatDoor
open Go.RowKit Go.Proofs.YtphkohpphdcjhaaGreatDoorW.PrintWords Go.Proofs.YtphkohpphdcjhaaGreatDoorW.PrintLast
open U (L S)

/-- The worlds in which block g still holds v, the tables stand, and nothing of W has changed. -/
def Keeps (W : World) (g : Nat) (v : V) (w : World) : Prop := IsV w g v ∧ Tab w ∧ Below W.heap.size W w
theorem Keeps.next {W : World} {g : Nat} {v : V} {w w' : World} (h : Keeps W g v w) (hb : Below w.heap.size w w') : Keeps W g v w' :=
  ⟨h.1.keep hb, h.2.1.below hb, h.2.2.trans (hb.mono h.2.2.size)⟩
theorem Keeps.drew {W : World} {g : Nat} {v : V} {w : World} (h : Keeps W g v w) : Keeps W g v { w with drawn := w.drawn + 1 } :=
  h.next ⟨rfl, rfl, rfl, Nat.le_refl _, fun _ _ => rfl⟩
section
variable {C : World → Prop} {Q : Act → Prop} {a : Act} {o : Oper} {rest : List Oper} {ops : Array Oper}
theorem wp_region_class {id : Nat} {Q : Exit → Act → World → Prop} {w : World} {l : List Oper} (C : World → Prop) (hB : Region.lexB .any l.toArray = true) (hC : C { w with drawn := w.drawn + 1 })
    (h : wpQuiet Tryz.prog l.toArray C (fun a' => ∀ w', C w' → Q .normal a' w') l a) : (Code.region id l.toArray true).wp Tryz.prog Q a w :=
  wp_region_quiet (C := C) (by kernel_rfl) hB hC (by simpa using h)
theorem q_loadV {W : World} {g : Nat} {v : V} (hw : Region.wanted o (yielded ops a.tmps) = true) (p : Operand) (ho : o.op = .load 23 p) (hx : a.eval p = .pointer (some ⟨g, 0, none⟩))
    (h : wpQuiet Tryz.prog ops (Keeps W g v) Q rest (a.put o.dst v.val)) : wpQuiet Tryz.prog ops (Keeps W g v) Q (o :: rest) a :=
  BigFrame.wpQuiet_want hw fun _ hK => ⟨v.val, fun w hc => by
    unfold Oper.quietAt execOp
    simp only [ho, hx, Instr.loadAt, Instr.sureAddr, Sem.run_bind, Sem.run_pure, Result.andThen_ok, run_loadVar_row w g 23 23 v.cells (0, 0) _ hc.1 Tryz.underlying23 rfl (by kernel_rfl)]
    exact ⟨rfl, rfl⟩, hK _ h⟩
theorem q_any {u : Value} (hw : Region.wanted o (yielded ops a.tmps) = true) (ho : ∀ w, C w → o.quietAt Tryz.prog a C w u)
    (h : wpQuiet Tryz.prog ops C Q rest (a.put o.dst u)) : wpQuiet Tryz.prog ops C Q (o :: rest) a :=
  BigFrame.wpQuiet_want hw fun _ hK => ⟨u, ho, hK _ h⟩
end

theorem Oper.call_quiet {o : Oper} {a : Act} {C : World → Prop} {f : FuncId} {args : Array Value} {r : Value} (h : ∀ w, (execOp a.eval o).run Tryz.prog w = .ok (.enter f args) w)
    (hc : ∀ w, C w → Calls Tryz.prog f args w fun e w' => e = .returned r ∧ C w') : ∀ w, C w → o.quietAt Tryz.prog a C w r := fun w hw => by
  unfold Oper.quietAt
  rw [h w]
  exact ⟨rfl, hc w hw⟩
theorem Keeps.calls {W : World} {g : Nat} {v : V} {w : World} (hw : Keeps W g v w) {f : FuncId} {args : Array Value} {r : Value}
    (h : Calls Tryz.prog f args w fun e w' => e = .returned r ∧ Below w.heap.size w w') : Calls Tryz.prog f args w fun e w' => e = .returned r ∧ Keeps W g v w' :=
  h.mono fun _ _ ⟨he, hb⟩ => ⟨he, hw.next hb⟩
end Go.Proofs.YtphkohpphdcjhaaGreatDoor
namespace Go.Proofs.YtphkohpphdcjhaaGreatDoor
open Go.ChangeShapes Go.WideShapes Go.ChangeAt Go.RowKit

set_option maxRecDepth 100000
theorem cellTypes23 : Tryz.prog.cellTypes Tryz.prog.depth 23 = some [9, 9, 9, 9, 4, 4, 9, 9, 9, 4, 4, 9, 9, 9] := by kernel_rfl
theorem cells23 : Tryz.prog.cellsOf 23 = 14 := by kernel_rfl
theorem okWide_str {W : World} {x : Value} (h : Cell.okWide Tryz.prog W .any 0 9 x) : ∃ s : ByteArray, x = .string s ∧ s.size ≤ 9223372036854775807 := by
  simp only [Cell.okWide, Cell.ok, Tryz.underlying9] at h
  cases x <;> simp at h
  exact ⟨_, rfl, by have : IntKind.i64.max = 9223372036854775807 := by decide
                    omega⟩
theorem okWide_bl {W : World} {x : Value} (h : Cell.okWide Tryz.prog W .any 0 4 x) : ∃ b : Bool, x = .bool b := by
  simp only [Cell.okWide, Cell.ok, Tryz.underlying4] at h
  cases x <;> simp at h
  exact ⟨_, rfl⟩
theorem open_V {W : World} {x : Value} (h : Value.okWide Tryz.prog W .any 0 23 x) : ∃ v : V, x = v.val ∧ v.Sm 9223372036854775807 := by
  simp only [Value.okWide, Tryz.underlying23] at h
  obtain ⟨cs, rfl, hn, ts, ht, _, h⟩ := h
  rw [cellTypes23] at ht
  obtain rfl := (Option.some.inj ht).symm
  rw [cells23] at hn
  obtain ⟨l⟩ := cs
  obtain ⟨x0, x1, x2, x3, x4, x5, x6, x7, x8, x9, xa, xb, xc, xd, rfl⟩ : ∃ x0 x1 x2 x3 x4 x5 x6 x7 x8 x9 xa xb xc xd, l = [x0, x1, x2, x3, x4, x5, x6, x7, x8, x9, xa, xb, xc, xd] := by
    match l, hn with
    | [x0, x1, x2, x3, x4, x5, x6, x7, x8, x9, xa, xb, xc, xd], _ => exact ⟨_, _, _, _, _, _, _, _, _, _, _, _, _, _, rfl⟩
  have g : ∀ (i : Nat) (u : TypeId) (y : Value), #[x0, x1, x2, x3, x4, x5, x6, x7, x8, x9, xa, xb, xc, xd][i]? = some y → [9, 9, 9, 9, 4, 4, 9, 9, 9, 4, 4, 9, 9, 9][i % 14]? = some u → Cell.okWide Tryz.prog W .any 0 u y := by
    intro i u y hy hu
    obtain ⟨u', hu', h'⟩ := h i y hy
    simp only [List.length_cons, List.length_nil] at hu'
    rw [show (0+1+1+1+1+1+1+1+1+1+1+1+1+1+1 : Nat) = 14 from rfl, hu] at hu'
    obtain rfl := Option.some.inj hu'
    exact h'
  obtain ⟨s0, rfl, w0⟩ := okWide_str (g 0 9 _ rfl rfl)
  obtain ⟨s1, rfl, w1⟩ := okWide_str (g 1 9 _ rfl rfl)
  obtain ⟨s2, rfl, w2⟩ := okWide_str (g 2 9 _ rfl rfl)
  obtain ⟨s3, rfl, w3⟩ := okWide_str (g 3 9 _ rfl rfl)
  obtain ⟨s4, rfl⟩ := okWide_bl (g 4 4 _ rfl rfl)
  obtain ⟨s5, rfl⟩ := okWide_bl (g 5 4 _ rfl rfl)
  obtain ⟨s6, rfl, w6⟩ := okWide_str (g 6 9 _ rfl rfl)
  obtain ⟨s7, rfl, w7⟩ := okWide_str (g 7 9 _ rfl rfl)
  obtain ⟨s8, rfl, w8⟩ := okWide_str (g 8 9 _ rfl rfl)
  obtain ⟨s9, rfl⟩ := okWide_bl (g 9 4 _ rfl rfl)
  obtain ⟨sa, rfl⟩ := okWide_bl (g 10 4 _ rfl rfl)
  obtain ⟨sb, rfl, wb⟩ := okWide_str (g 11 9 _ rfl rfl)
  obtain ⟨sc, rfl, wc⟩ := okWide_str (g 12 9 _ rfl rfl)
  obtain ⟨sd, rfl, wd⟩ := okWide_str (g 13 9 _ rfl rfl)
  exact ⟨⟨s0, s1, s2, s3, s4, s5, s6, s7, s8, s9, sa, sb, sc, sd⟩, rfl, ⟨w0, w1, w2, w3, w6, w7, w8, wb, wc, wd⟩⟩
theorem flds_of {fs : Array Field} (h : Tryz.prog.underlying 23 = some (.struct fs)) : fs.toList.map (·.type) = [9, 9, 9, 9, 4, 4, 9, 9, 9, 4, 4, 9, 9, 9] := by
  have e : (match Tryz.prog.underlying 23 with | some (.struct fs) => fs.toList.map (·.type) | _ => []) = [9, 9, 9, 9, 4, 4, 9, 9, 9, 4, 4, 9, 9, 9] := by kernel_rfl
  rw [h] at e
  exact e
section
variable {H : Type} {enc : TypeId × Value → H} {W W' : World} {base : Nat} {sp sp' : Nat → Bool} {hd hd' : Bool}
theorem places_flat {n : Nat} {t : TypeId} {cs : List Value} {x : DataW H × List MemPlace} (ht : Tryz.prog.underlying t = some .string ∨ Tryz.prog.underlying t = some .bool)
    (h : DataW.trod enc Tryz.prog W base sp hd n t cs = some x) : x.2 = [] := by
  cases n with
  | zero => simp [DataW.trod] at h
  | succ n =>
    unfold DataW.trod at h
    rcases ht with ht | ht <;> rw [ht] at h
    all_goals
      split at h <;> simp_all
    all_goals
      first
        | (obtain ⟨_, rfl⟩ := h; rfl)
        | (subst h; rfl)
        | skip
theorem places_V {x : Value} {d : DataW H} {ps : List MemPlace} (h : DataW.Trod enc Tryz.prog W base sp hd 23 x d ps) : ps = [] := by
  obtain ⟨n, h⟩ := h
  obtain ⟨flds23, u23⟩ : ∃ fs, Tryz.prog.underlying 23 = some (.struct fs) := ⟨_, Tryz.underlying23⟩
  have types23 := flds_of u23
  obtain ⟨xs, m, _, he, _, hl, hf⟩ := DataW.trod_struct u23 h
  have hp : ps = xs.flatMap (·.2) := congrArg Prod.snd he
  rw [hp, List.flatMap_eq_nil_iff]
  intro y hy
  obtain ⟨i, hi, rfl⟩ := List.getElem_of_mem hy
  have hflat : ∀ f ∈ flds23, Tryz.prog.underlying f.type = some .string ∨ Tryz.prog.underlying f.type = some .bool := by
    intro f hm
    have hm' : f.type ∈ flds23.toList.map (·.type) := List.mem_map_of_mem hm.val
    rw [types23] at hm'
    simp only [List.mem_cons, List.not_mem_nil, or_false] at hm'
    rcases hm' with h | h | h | h | h | h | h | h | h | h | h | h | h | h <;> rw [h]
    all_goals first | exact .inl Tryz.underlying9 | exact .inr Tryz.underlying4
  have hi' : i < flds23.size := by rw [← hl]; exact hi
  have h1 := hf i flds23[i] (Array.getElem?_eq_getElem hi')
  rw [List.getElem?_eq_getElem hi] at h1
  exact places_flat (hflat _ (Array.getElem_mem hi')) h1
theorem shut_V {x : Value} {d : DataW H} {ps : List MemPlace} (h : DataW.Trod enc Tryz.prog W base sp hd 23 x d ps) : DataW.Trod enc Tryz.prog W' base sp' hd' 23 x d ps :=
  Trod_any laidOut (by kernel_rfl) (of_decide_eq_true (by kernel_rfl)) (by kernel_rfl) (by kernel_rfl) h (by rw [places_V h]; intro p hp; cases hp)
end
end Go.Proofs.YtphkohpphdcjhaaGreatDoor
