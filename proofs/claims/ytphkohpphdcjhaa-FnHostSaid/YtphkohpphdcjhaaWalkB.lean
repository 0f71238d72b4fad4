/- The walk of splitHostPort at a text without a bracket: it parts it as the reference does. -/
import Derived.Test.YtphkohpphdcjhaaPFnHostx1
import Derived.Test.YtphkohpphdcjhaaWalkA
namespace Go.Proofs.Ytphkohpphdcjhaa
open Go.RowKit PFnHost Go.Proofs.YtphkohpphdcjhaaW.PrintWords

theorem wrap_of {x : Int} (h0 : -9223372036854775808 ≤ x) (h1 : x < 9223372036854775808) : wrap64 x = x := by
  unfold wrap64
  omega

/-- Both searches for a byte from behind come to one place. -/
theorem lasts (s : ByteArray) (c : Int) (hs : s.size ≤ 4611686018427387904) (d : Nat) : ∀ (k : Nat) (i : Int), i + 1 = d → i < s.size → d < k →
    ∃ r : Int, spec_last.l0 k s c i = some r ∧ bytealg_LastIndexByteString.l0 k s c i = some r ∧ -1 ≤ r ∧ r ≤ i := by
  induction d with
  | zero =>
    intro k i hd hi hk
    obtain ⟨k, rfl⟩ : ∃ m, k = m + 1 := ⟨k - 1, by omega⟩
    refine ⟨-1, ?_, ?_, by omega, by omega⟩
    · simp only [spec_last.l0]; rw [if_neg (by omega)]
    · simp only [bytealg_LastIndexByteString.l0]; rw [if_neg (by omega)]
  | succ d ih =>
    intro k i hd hi hk
    obtain ⟨k, rfl⟩ : ∃ m, k = m + 1 := ⟨k - 1, by omega⟩
    by_cases h : bt s i = c
    · refine ⟨i, ?_, ?_, by omega, by omega⟩
      · simp only [spec_last.l0]; rw [if_pos (by omega), if_pos (by omega), if_pos hi, if_pos h]
      · simp only [bytealg_LastIndexByteString.l0]; rw [if_pos (by omega), if_pos (by omega), if_pos hi, if_pos h]
    · obtain ⟨r, h1, h2, h3, h4⟩ := ih k (i - 1) (by omega) (by omega) (by omega)
      refine ⟨r, ?_, ?_, h3, by omega⟩
      · simp only [spec_last.l0]; rw [if_pos (by omega), if_pos (by omega), if_pos hi, if_neg h, wrap_of (by omega) (by omega)]; exact h1
      · simp only [bytealg_LastIndexByteString.l0]; rw [if_pos (by omega), if_pos (by omega), if_pos hi, if_neg h, wrap_of (by omega) (by omega)]; exact h2

theorem digit_is (c : UInt8) : spec_digit.f (c.toNat : Int) = some (U.digit c) := by
  unfold spec_digit.f U.digit
  by_cases h : (c.toNat : Int) ≥ 48
  · rw [if_pos h]
    have : 48 ≤ c.toNat := by omega
    simp [this]
    omega
  · rw [if_neg h]
    have : ¬ 48 ≤ c.toNat := by omega
    simp [this]

/-- The reference's look at a port says what U.port says. -/
theorem port_loop (s : ByteArray) (hs : s.size ≤ 4611686018427387904) (h0 : 0 < s.size) (d : Nat) : ∀ (k : Nat) (i : Nat), 1 ≤ i → i ≤ s.size → s.size - i = d → d < k →
    spec_port.l0 k s i = some ((s.data.toList.drop i).all U.digit && (bt s 0 == 58)) := by
  induction d with
  | zero =>
    intro k i hi h1 hd hk
    obtain ⟨k, rfl⟩ : ∃ m, k = m + 1 := ⟨k - 1, by omega⟩
    have : s.data.toList.drop i = [] := List.drop_eq_nil_of_le (by rw [← Lib.size_eq]; omega)
    simp only [spec_port.l0]; rw [if_neg (by omega), if_pos (by omega), this]
    rfl
  | succ d ih =>
    intro k i hi h1 hd hk
    obtain ⟨k, rfl⟩ : ∃ m, k = m + 1 := ⟨k - 1, by omega⟩
    have hl : i < s.size := by omega
    have hb : bt s i = ((s[i]'hl).toNat : Int) := (bt_at s i (by simpa using hl)).symm
    simp only [spec_port.l0]; rw [if_pos (by omega), if_pos (by omega), hb, digit_is]
    simp only [Option.bind_some]
    rw [U.drop_at _ _ (by simpa using hl), List.all_cons, show s.data.toList[i]'(by simpa using hl) = s[i]'hl from rfl]
    by_cases hdg : U.digit s[i] = true
    · rw [if_pos hdg, hdg, wrap_of (by omega) (by omega), Bool.true_and]
      have := ih k (i + 1) (by omega) (by omega) (by omega) (by omega)
      exact_mod_cast this
    · rw [if_neg hdg, Bool.eq_false_iff.2 hdg]
      rfl
theorem port_is (s : ByteArray) (k : Nat) (hs : s.size ≤ 4611686018427387904) (hk : s.size < k) : spec_port.f k s = some (U.port s.data.toList) := by
  unfold spec_port.f
  rw [Lib.toList_data]
  cases h : s.data.toList with
  | nil => rw [if_pos rfl]; rfl
  | cons c r =>
    have hz : s.size = r.length + 1 := by rw [Lib.size_eq, h]; rfl
    have := port_loop s hs (by omega) (s.size - 1) k 1 (by omega) (by omega) rfl (by omega)
    rw [if_neg (by simp)]
    have e0 : bt s 0 = (c.toNat : Int) := by
      have := (bt_at s 0 (show (0 : Int).toNat < s.size by simp; omega)).symm
      rw [this]
      congr 2
      show s.data.toList[0]'(by rw [h]; simp) = c
      simp only [h, List.getElem_cons_zero]
    rw [h, e0] at this
    refine Eq.trans (by exact_mod_cast this) ?_
    simp only [List.drop_succ_cons, List.drop_zero, U.port, Option.some.injEq]
    rw [Bool.and_comm]
    congr 1
    rw [Bool.eq_iff_iff]
    simp
    omega

/-- No bracket. -/
def noBr (s : ByteArray) : Prop := ∀ c ∈ s.data.toList, c.toNat ≠ 91
theorem noBr_head {s : ByteArray} (h : noBr s) (i : Nat) : noBr (s.extract 0 i) := by
  intro c hc
  rw [Lib.extract_data] at hc
  exact h c (List.mem_of_mem_drop (List.mem_of_mem_take hc))
theorem noBr_prefix {s : ByteArray} (h : noBr s) : strings_HasPrefix.f s ⟨#[91]⟩ = some false := by
  unfold strings_HasPrefix.f stringslite_HasPrefix.f
  rw [show ((⟨#[91]⟩ : ByteArray).size : Int) = 1 from rfl]
  by_cases h1 : (s.size : Int) ≥ 1
  · rw [if_pos h1, if_pos (by decide), if_pos (by omega)]
    simp only [Option.bind_some, Option.some.injEq, beq_eq_false_iff_ne]
    rw [Lib.extract_toList, Lib.toList_data]
    intro e
    cases hl : s.data.toList with
    | nil => rw [hl] at e; exact absurd e (by decide)
    | cons c r =>
      rw [hl] at e
      have e2 : c :: [] = [91] := by simpa using e
      have := h c (by rw [hl]; simp)
      simp at e2
      rw [e2] at this
      exact this rfl
  · rw [if_neg h1]
    rfl

/-- What parting comes to: three ways. -/
theorem parted_ways (s h p : ByteArray) (k : Nat) (hs : s.size ≤ 4611686018427387904) (hk : s.size < k) (H : spec_Parted.f k s = some (h, p)) :
    (∃ i : Nat, i < s.size ∧ strings_LastIndexByte.f k s 58 = some (i : Int) ∧ U.port (s.extract i s.size).data.toList = true ∧ h = s.extract 0 i ∧ p = s.extract (i + 1) s.size) ∨
    (∃ i : Nat, i < s.size ∧ strings_LastIndexByte.f k s 58 = some (i : Int) ∧ U.port (s.extract i s.size).data.toList = false ∧ h = s ∧ p = ⟨#[]⟩) ∨
    (strings_LastIndexByte.f k s 58 = some (-1) ∧ h = s ∧ p = ⟨#[]⟩) := by
  obtain ⟨r, h1, h2, h3, h4⟩ := lasts s 58 hs s.size k ((s.size : Int) - 1) (by omega) (by omega) hk
  have e1 : spec_last.f k s 58 = some r := by unfold spec_last.f; rw [wrap_of (by omega) (by omega)]; exact h1
  have e2 : strings_LastIndexByte.f k s 58 = some r := by
    unfold strings_LastIndexByte.f bytealg_LastIndexByteString.f
    rw [wrap_of (by omega) (by omega), h2]
    rfl
  unfold spec_Parted.f at H
  rw [e1] at H
  simp only [Option.bind_some] at H
  by_cases hr : r ≥ 0
  · obtain ⟨i, rfl⟩ := Int.eq_ofNat_of_zero_le hr
    rw [if_pos hr, if_pos hr, if_pos (by omega), Int.toNat_natCast, port_is _ _ (by simp; omega) (by simp; omega)] at H
    simp only [Option.bind_some] at H
    have hz : (s.extract i s.size).data.toList.length ≤ s.size := by rw [← Lib.size_eq]; simp
    by_cases hp : U.port (s.extract i s.size).data.toList = true
    · rw [if_pos hp, wrap_of (by omega) (by omega), if_pos (by omega), if_pos (by omega)] at H
      simp only [Option.some.injEq, Prod.mk.injEq] at H
      exact .inl ⟨i, by omega, e2, hp, H.1.symm, by rw [← H.2]; congr 1⟩
    · rw [if_neg hp] at H
      simp only [Option.some.injEq, Prod.mk.injEq] at H
      exact .inr (.inl ⟨i, by omega, e2, Bool.eq_false_iff.2 hp, H.1.symm, H.2.symm⟩)
  · rw [if_neg hr] at H
    simp only [Option.some.injEq, Prod.mk.injEq] at H
    exact .inr (.inr ⟨by rw [e2]; congr 1; omega, H.1.symm, H.2.symm⟩)
theorem parted_some (s : ByteArray) (k : Nat) (hs : s.size ≤ 4611686018427387904) (hk : s.size < k) : ∃ h p, spec_Parted.f k s = some (h, p) := by
  obtain ⟨r, h1, h2, h3, h4⟩ := lasts s 58 hs s.size k ((s.size : Int) - 1) (by omega) (by omega) hk
  have e1 : spec_last.f k s 58 = some r := by unfold spec_last.f; rw [wrap_of (by omega) (by omega)]; exact h1
  unfold spec_Parted.f
  rw [e1]
  simp only [Option.bind_some]
  by_cases hr : r ≥ 0
  · obtain ⟨i, rfl⟩ := Int.eq_ofNat_of_zero_le hr
    rw [if_pos hr, if_pos hr, if_pos (by omega), Int.toNat_natCast, port_is _ _ (by simp; omega) (by simp; omega)]
    simp only [Option.bind_some]
    by_cases hp : U.port (s.extract i s.size).data.toList = true
    · rw [if_pos hp, wrap_of (by omega) (by omega), if_pos (by omega), if_pos (by omega)]
      exact ⟨_, _, rfl⟩
    · rw [if_neg hp]
      exact ⟨_, _, rfl⟩
  · rw [if_neg hr]
    exact ⟨_, _, rfl⟩
end Go.Proofs.Ytphkohpphdcjhaa
