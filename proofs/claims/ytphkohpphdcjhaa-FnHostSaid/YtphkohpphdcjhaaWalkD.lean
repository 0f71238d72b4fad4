/- The walk of the law FnHost: it returns true at every text. -/
import Derived.Test.YtphkohpphdcjhaaWalkC
namespace Go.Proofs.Ytphkohpphdcjhaa
open Go.RowKit PFnHost Go.Proofs.YtphkohpphdcjhaaW.PrintWords

/-- None of the first k bytes is a bracket that opens. -/
def okUpto (s : ByteArray) (k : Nat) : Prop := ∀ c ∈ s.data.toList.take k, c.toNat ≠ 91
theorem ok_zero (s : ByteArray) : okUpto s 0 := by intro c hc; simp at hc
theorem ok_step (s : ByteArray) (k : Nat) (h : okUpto s k) (hk : k < s.size) (hc : ¬ ((s[k]'hk).toNat : Int) = 91) : okUpto s (k + 1) := by
  intro c hm
  rw [List.take_succ_eq_append_getElem (by simpa using hk)] at hm
  rcases List.mem_append.1 hm with hm | hm
  · exact h c hm
  · have e : c = s[k]'hk := List.mem_singleton.1 hm
    subst e
    intro e2
    exact hc (by omega)
theorem ok_all (s : ByteArray) (h : okUpto s s.size) : noBr s := by
  intro c hc
  exact h c (by rw [List.take_of_length_le (by rw [← Lib.size_eq]; exact Nat.le_refl _)]; exact hc)

theorem a7_parted : spec_Parted.f 10 ⟨#[97, 58, 55]⟩ = some (⟨#[97]⟩, ⟨#[55]⟩) := by decide +kernel
theorem a7_noBr : noBr ⟨#[97, 58, 55]⟩ := by unfold noBr; decide

set_option maxHeartbeats 800000 in
theorem law_any (s : ByteArray) (w : World) :
    Calls Try.prog 3 #[.string s] w fun e w' => e = .returned (.bool true) ∧ Below w.heap.size w w' := by
  by_cases h1 : s.size > 2147483647
  · go_enter Try.func3, Try.ntmps3
    go_wp2_with fail
    go_ret
    exact ⟨rfl, Below.refl _ _⟩
  by_cases h2 : s.size > 300
  · go_enter Try.func3, Try.ntmps3
    go_wp2_with fail
    go_ret
    exact ⟨rfl, Below.refl _ _⟩
  obtain ⟨h, p, H⟩ := parted_some s 400 (by omega) (by omega)
  have H := Lib.hid H
  go_enter Try.func3, Try.ntmps3
  go_wp2_with fail
  go_loop [14] (fun c => ∃ k : Nat, k ≤ s.size ∧ c = .int .i64 k ∧ Hid (okUpto s k)) (fun c => s.size - (intOf c).toNat)
  case atStart => exact ⟨0, Nat.zero_le _, rfl, ok_zero s⟩
  case round =>
    obtain ⟨k, hk, rfl, HK⟩ := hrel
    by_cases hlt : k < s.size
    · go_wp2_with fail
      · go_ret
        exact ⟨rfl, Below.refl _ _⟩
      · go_ret
        exact ⟨rfl, Below.refl _ _⟩
      · have hc : ¬ ((s[k]'hlt).toNat : Int) = 91 := by assumption
        exact ⟨⟨k + 1, by omega, by go_num, ok_step s k HK.out hlt hc⟩, by simp [intOf]; omega⟩
    · obtain rfl : k = s.size := by omega
      have HB : Hid (noBr s) := ok_all s HK.out
      clear HK
      go_wp2_with fail
      refine (spec_Parted.calls 400 s h p _ H.out).mono ?_
      rintro e w1 ⟨rfl, ⟨n, rfl⟩⟩
      go_wp2_with fail
      refine (implHostname s h p 400 _ (by omega) (by omega) HB.out H).mono ?_
      rintro e w2 ⟨rfl, b2⟩
      go_wp2_with fail
      refine (implPort s h p 400 _ (by omega) (by omega) HB.out H).mono ?_
      rintro e w3 ⟨rfl, b3⟩
      go_wp2_with fail
      refine (implPort ⟨#[97, 58, 55]⟩ ⟨#[97]⟩ ⟨#[55]⟩ 10 _ (by decide) (by decide) a7_noBr (Lib.hid a7_parted)).mono ?_
      rintro e w4 ⟨rfl, b4⟩
      go_wp2_with fail
      go_ret
      have c1 := b2.size
      have c2 := b3.size
      exact ⟨rfl, (((below_n (Below.refl _ _) n).trans (b2.mono (by simp))).trans (b3.mono (by simp at *; omega))).trans (b4.mono (by simp at *; omega))⟩
end Go.Proofs.Ytphkohpphdcjhaa
