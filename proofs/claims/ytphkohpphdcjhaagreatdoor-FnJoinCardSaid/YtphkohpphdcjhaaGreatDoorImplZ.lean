/- JoinPath as a method; whether a list is short; the thin Join. -/
import Derived.Test.YtphkohpphdcjhaaGreatDoorImplY
set_option linter.unusedVariables false
set_option linter.unusedSimpArgs false
namespace Go.Proofs.YtphkohpphdcjhaaGreatDoor
open Go.RowKit Go.Proofs.YtphkohpphdcjhaaGreatDoorW.PrintWords Go.Proofs.YtphkohpphdcjhaaGreatDoorW.PrintLast
open U (L S)

set_option maxRecDepth 100000 in
set_option maxHeartbeats 1600000 in
theorem i_join (W : World) (g : Nat) (u : V) (l : List U.B) (p : Option Addr) (n cap : Nat) (hu : u.Sm 4000) (hn : n ≤ 10) (hle : ∀ e ∈ l, e.length ≤ 50) (hL : ArgL W l p n) (hnil : p = none → n = 0 ∧ cap = 0) (hT : Tab W) (hg : IsU W g u) (hok : (U.join u l).2 = true) :
    Calls Tryz.prog 57 #[.pointer (some ⟨g, 0, none⟩), .slice p n cap] W fun e w' => ∃ k, e = .returned (.pointer (some ⟨k, 0, none⟩)) ∧ Below W.heap.size W w' ∧ IsU w' k (U.join u l).1 := by
  have C := i_joinPath W g u l p n cap hu hn hle hL hnil hT hg
  rw [hok] at C
  obtain ⟨v', HV⟩ : ∃ x, Hid ((U.join u l).1 = x) := ⟨_, Lib.hid rfl⟩
  rw [HV.out] at C ⊢
  have CJ := Lib.hid C
  clear C hle hL hnil hT hg hok hu HV
  go_enter Tryz.func57, Tryz.ntmps57
  go_wp2_with fail
  refine CJ.out.mono ?_
  rintro e w1 ⟨b1, k, h1⟩
  rw [if_pos rfl] at h1
  obtain ⟨rfl, i1⟩ := h1
  have B1 := Lib.hid b1
  have I1 := Lib.hid i1
  clear b1 i1
  go_wp2_with fail
  go_ret
  exact ⟨k, rfl, B1.out, I1.out⟩
set_option maxRecDepth 100000 in
set_option maxHeartbeats 1600000 in
theorem c_few (W : World) (l : List U.B) (p : Option Addr) (n cap : Nat) (hn : n ≤ 10) (hle : ∀ e ∈ l, e.length ≤ 50) (hL : ArgL W l p n) :
    Calls Tryz.prog 56 #[.slice p n cap] W fun e w' => e = .returned (.bool true) ∧ w' = W := by
  have HLE := Lib.hid hle
  have HL := Lib.hid hL
  have hn2 : (n : Int) ≤ 50 := by omega
  clear hle hL
  go_enter Tryz.func56, Tryz.ntmps56
  go_wp2_with fail
  go_loop [10] (fun i => ∃ k : Nat, k ≤ n ∧ i = .int .i64 k) (fun i => n - (intOf i).toNat)
  case atStart => exact ⟨0, Nat.zero_le _, rfl⟩
  case round =>
    obtain ⟨k, hk, rfl⟩ := hrel
    by_cases hlt : k < n
    · obtain ⟨gl, off, rfl, hgl, hcl⟩ := HL.out.at_ (by omega)
      have c0 := hcl k hlt
      obtain ⟨t, HT⟩ : ∃ t, Hid (S (l.getD k []) = t) := ⟨_, Lib.hid rfl⟩
      rw [HT.out] at c0
      have hkl : k < l.length := by rw [HL.out.len]; exact hlt
      have ht : (t.size : Int) ≤ 4000 := by
        have h1 := HLE.out _ (List.getElem_mem hkl)
        rw [← HT.out, U.size_S, List.getD, List.getElem?_eq_getElem hkl]
        simp only [Option.getD_some]
        omega
      clear hcl hkl hgl
      go_wp2_with fail
      go_round
      case rel => exact ⟨k + 1, by omega, by go_num⟩
      case measure => simp [intOf]; omega
    · go_wp2_with fail
      go_ret
      exact ⟨rfl, rfl⟩
set_option maxRecDepth 100000 in
set_option maxHeartbeats 3200000 in
theorem t_join (W : World) (u : V) (l : List U.B) (p : Option Addr) (n cap : Nat) (hu : u.Sm 4000) (hf : u.fair) (hn : n ≤ 10) (hle : ∀ e ∈ l, e.length ≤ 50) (hL : ArgL W l p n) (hnil : p = none → n = 0 ∧ cap = 0) (hT : Tab W) (hok : (U.join u l).2 = true) :
    Calls Tryz.prog 32 #[u.val, .slice p n cap] W fun e w' => e = .returned (U.join u l).1.val ∧ Below W.heap.size W w' := by
  have CJ : Hid (∀ (w : World) (g : Nat), Below W.heap.size W w → IsU w g u → Calls Tryz.prog 57 #[.pointer (some ⟨g, 0, none⟩), .slice p n cap] w fun e w' => ∃ k, e = .returned (.pointer (some ⟨k, 0, none⟩)) ∧ Below w.heap.size w w' ∧ IsU w' k (U.join u l).1) :=
    Lib.hid fun w g hb hg => i_join w g u l p n cap hu hn hle (hL.keep hb) hnil (hT.below hb) hg hok
  have CF : Hid (∀ w, Below W.heap.size W w → Calls Tryz.prog 56 #[.slice p n cap] w fun e w' => e = .returned (.bool true) ∧ w' = w) := Lib.hid fun w hb => c_few w l p n cap hn hle (hL.keep hb)
  have FV : Hid (U.join u l).1.fair := Lib.hid (U.setPath_fair hf _)
  obtain ⟨v', HV⟩ : ∃ x, Hid ((U.join u l).1 = x) := ⟨_, Lib.hid rfl⟩
  rw [HV.out] at CJ FV ⊢
  have HS := Lib.hid hu
  have HF := Lib.hid hf
  have hB : Below W.heap.size W ((W.alloc (.cells u.cells 23)).alloc (.cells V.zero.cells 23)) := ((Below.refl _ _).alloc (Nat.le_refl _) _).alloc (by simp) _
  have hI : IsV ((W.alloc (.cells u.cells 23)).alloc (.cells V.zero.cells 23)) W.heap.size u := (Below.heap_alloc _ _ _ (by simp)).trans (heap_new _ _ _ rfl)
  have hJ : IsV ((W.alloc (.cells u.cells 23)).alloc (.cells V.zero.cells 23)) (W.heap.size + 1) V.zero := heap_new _ _ _ (by simp)
  have HK : Hid (Keeps2' W W.heap.size u (W.heap.size + 1) V.zero ((W.alloc (.cells u.cells 23)).alloc (.cells V.zero.cells 23))) := Lib.hid ⟨hI, hJ, hB⟩
  clear hB hI hJ hu hf hle hL hnil hT hok
  go_enter Tryz.func32, Tryz.ntmps32
  go_upto_region 1 with fail
  change Code.wp _ _ _ _ ((W.alloc (.cells u.cells 23)).alloc (.cells V.zero.cells 23))
  obtain ⟨W1, hW1⟩ : ∃ x, (W.alloc (.cells u.cells 23)).alloc (.cells V.zero.cells 23) = x := ⟨_, rfl⟩
  rw [hW1] at HK ⊢
  clear hW1
  obtain ⟨g', hg'⟩ : ∃ g, W.heap.size + 1 = g := ⟨_, rfl⟩
  obtain ⟨g, hg⟩ : ∃ g, W.heap.size = g := ⟨_, rfl⟩
  have K1 : Hid (Keeps2' W g u g' V.zero W1) := by rw [← hg', ← hg]; exact HK
  have HG2 : Hid (W.heap.size ≤ g') := Lib.hid (by omega)
  rw [hg', hg]
  clear hg' hg HK
  go_wp2_with (refine wpl_loadV rfl _ rfl _ _ rfl K1.out.1 ?_)
  refine (i_fits u W1 HS.out).mono ?_
  rintro e w2 ⟨rfl, b2⟩
  have K2 := Lib.hid (K1.out.next b2)
  clear b2 K1
  go_wp2_with fail
  refine (CF.out w2 K2.out.2.2).mono ?_
  rintro e w3 ⟨rfl, rfl⟩
  go_wp2_with (refine wpl_loadV rfl _ rfl _ _ rfl K2.out.1 ?_)
  refine (i_made u _ HF.out).mono ?_
  rintro e w4 ⟨b4, k, rfl, hk, u4⟩
  have K4 := Lib.hid (K2.out.next b4)
  have U4 := Lib.hid u4
  clear b4 u4 hk K2
  go_wp2_with fail
  refine (CJ.out w4 k K4.out.2.2 U4.out).mono ?_
  rintro e w5 ⟨k5, rfl, b5, u5⟩
  have K5 := Lib.hid (K4.out.next b5)
  have U5 := Lib.hid u5
  clear b5 u5 K4 U4
  go_wp2_with fail
  refine (i_told w5 k5 v' U5.out FV.out).mono ?_
  rintro e w6 ⟨rfl, b6⟩
  have K6 := Lib.hid (K5.out.next b6)
  clear b6 K5 U5
  go_wp2_with (refine wpl_storeV rfl _ _ rfl _ V.zero v' rfl rfl K6.out.2.1 ?_; intro wR hR oR)
  refine ret_V1 Tryz.results32 _ _ rfl rfl hR ?_
  exact ⟨rfl, Only.below K6.out.2.2 oR K6.out.2.2.size HG2.out⟩
end Go.Proofs.YtphkohpphdcjhaaGreatDoor
