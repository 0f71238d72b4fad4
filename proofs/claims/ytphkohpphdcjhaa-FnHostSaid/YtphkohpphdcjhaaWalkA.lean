/- The walk of validOptionalPort: it says whether a text is empty, or a colon and figures. -/
import Derived.Test.YtphkohpphdcjhaaProg
import Derived.Test.YtphkohpphdcjhaaPlain
import Derived.WalkKit
import Derived.WalkSpells
import Derived.WalkLawsBesides
import Derived.Lib.Hide
import Derived.Lib.IndexBytes
namespace Go.Proofs.Ytphkohpphdcjhaa
open Go.RowKit

theorem dec_digit (t : ByteArray) (pos : Nat) (hp : pos < t.size) (h : U.digit t[pos] = true) : Utf8.decode t pos = ((t[pos]'hp).toNat, 1) := by
  simp only [U.digit, Bool.and_eq_true, decide_eq_true_eq] at h
  exact decode_ascii t pos hp (by omega)
theorem dec_not (t : ByteArray) (pos : Nat) (hp : pos < t.size) (h : U.digit t[pos] = false) : (Utf8.decode t pos).1 < 48 ∨ 57 < (Utf8.decode t pos).1 := by
  simp only [U.digit, Bool.and_eq_false_iff, decide_eq_false_iff_not] at h
  by_cases ha : (t[pos]'hp).toNat < 128
  · rw [decode_ascii t pos hp ha]
    show (t[pos]'hp).toNat < 48 ∨ 57 < (t[pos]'hp).toNat
    omega
  · have := (decode_high t pos hp (by omega)).1
    omega

/-- What the loop says of the rest from a place on. -/
def restDigits (t : ByteArray) (pos : Nat) : Bool := (t.data.toList.drop pos).all U.digit
theorem rest_end (t : ByteArray) (pos : Nat) (h : ¬ pos < t.size) : restDigits t pos = true := by
  unfold restDigits
  rw [List.drop_eq_nil_of_le (by have := t.size_data; simp; omega)]
  rfl
theorem rest_step (t : ByteArray) (pos : Nat) (h : pos < t.size) : restDigits t pos = (U.digit t[pos] && restDigits t (pos + 1)) := by
  unfold restDigits
  rw [U.drop_at _ _ (by simpa using h)]
  rfl

theorem ret_bool {a b : Bool} (h : a = b) : Ending.returned (.bool a) = .returned (.bool b) := by rw [h]
theorem iter_below (w : World) (t : ByteArray) (p : Nat) : Below w.heap.size w (w.iter t p) := (Below.refl _ _).alloc (Nat.le_refl _) _

set_option maxHeartbeats 400000 in
theorem vop_loop (s : ByteArray) (w : World) (h0 : 1 ≤ s.size) (e0 : (s.toList == []) = false) (h1 : ((s[0]'(by omega)).toNat : Int) = 58) (P : Bool) (HP : Hid (restDigits (s.extract 1 s.size) 0 = P)) :
    Calls Try.prog 18 #[.string s] w fun e w' => e = .returned (.bool P) ∧ Below w.heap.size w w' := by
  go_enter Try.func18, Try.ntmps18
  go_wp2
  obtain ⟨t, Ht⟩ : ∃ t, Hid (s.extract 1 s.size = t) := ⟨_, rfl⟩
  rw [Ht.out] at HP ⊢
  clear Ht
  go_loopw [4] (fun _ w' => ∃ pos : Nat, w' = w.iter t pos ∧ Hid (restDigits t pos = P)) (fun _ w' => t.size - w'.iterPos w.heap.size)
  case atStart => exact ⟨0, rfl, HP⟩
  case round =>
    clear HP
    obtain ⟨pos, rfl, HP⟩ := hrel
    by_cases hp : pos < t.size
    · by_cases hd : U.digit t[pos] = true
      · have hnx : ∀ ty, (Instr.next (.pointer (some ⟨w.heap.size, 0, none⟩)) true ty).run Try.prog (w.iter t pos) = _ := fun ty => run_next_any w t pos ty hp
        have hdd := dec_digit t pos hp hd
        rw [hdd] at hnx
        have HP' : Hid (restDigits t (pos + 1) = P) := by
          have := HP.out
          rw [rest_step t pos hp, hd, Bool.true_and] at this
          exact this
        simp only [U.digit, Bool.and_eq_true, decide_eq_true_eq] at hd
        obtain ⟨hd1, hd2⟩ := hd
        obtain ⟨c, Hc⟩ : ∃ c, Hid ((t[pos]'hp).toNat = c) := ⟨_, rfl⟩
        rw [Hc.out] at hnx hd1 hd2
        clear hdd Hc
        go_wp2
        go_roundw
        case rel => exact ⟨pos + 1, rfl, HP'⟩
        case measure => simp; omega
      · have hd : U.digit t[pos] = false := by simpa using hd
        have hnx : ∀ ty, (Instr.next (.pointer (some ⟨w.heap.size, 0, none⟩)) true ty).run Try.prog (w.iter t pos) = _ := fun ty => run_next_any w t pos ty hp
        have hdd := dec_not t pos hp hd
        have hP : P = false := by
          have := HP.out
          rw [rest_step t pos hp, hd, Bool.false_and] at this
          exact this.symm
        subst hP
        obtain ⟨d, Hdd⟩ : ∃ d, Hid ((Utf8.decode t pos) = d) := ⟨_, rfl⟩
        rw [Hdd.out] at hnx hdd
        clear Hdd hd
        obtain ⟨c, n⟩ := d
        simp only at hnx hdd
        rcases hdd with hdd | hdd
        all_goals
          go_wp2
          go_ret
          exact ⟨rfl, iter_below w t _⟩
    · have hnx : ∀ ty, (Instr.next (.pointer (some ⟨w.heap.size, 0, none⟩)) true ty).run Try.prog (w.iter t pos) = _ := fun ty => run_next_end w t pos ty hp
      have hP : P = true := by
        have := HP.out
        rw [rest_end t pos hp] at this
        exact this.symm
      subst hP
      go_wp2
      go_ret
      exact ⟨rfl, iter_below w t _⟩

/-- validOptionalPort: empty, or a colon and figures. -/
theorem vop_any (s : ByteArray) (w : World) (P : Bool) (HP : Hid (U.port s.data.toList = P)) :
    Calls Try.prog 18 #[.string s] w fun e w' => e = .returned (.bool P) ∧ Below w.heap.size w w' := by
  by_cases h0 : s.size = 0
  · have e1 : s.toList = [] := by rw [Lib.toList_data]; exact List.eq_nil_of_length_eq_zero (by rw [← Lib.size_eq]; exact h0)
    have hP : P = true := by have := HP.out; rw [← Lib.toList_data, e1] at this; exact this.symm
    subst hP
    have e2 : (s.toList == []) = true := by rw [e1]; rfl
    clear e1 h0 HP
    go_enter Try.func18, Try.ntmps18
    go_wp2
    go_ret
    exact ⟨rfl, Below.refl _ _⟩
  · have h0 : 1 ≤ s.size := by omega
    have e0 : (s.toList == []) = false := by
      rw [Lib.toList_data]
      cases h : s.data.toList with
      | nil => have : s.size = 0 := by rw [Lib.size_eq, h]; rfl
               omega
      | cons _ _ => rfl
    have hl : s.data.toList = s[0]'(by omega) :: (s.extract 1 s.size).data.toList := by
      rw [Lib.extract_to_end, show s[0]'(by omega) = s.data.toList[0]'(by rw [← Lib.size_eq]; omega) by rfl, ← U.drop_at _ 0]
      rfl
    have hq := HP.out
    rw [hl] at hq
    by_cases h1 : ((s[0]'(by omega)).toNat : Int) = 58
    · refine vop_loop s w h0 e0 h1 P ?_
      have : (s[0]'(by omega)).toNat = 58 := by omega
      have h2 : restDigits (s.extract 1 s.size) 0 = P := by simpa only [U.port, this, decide_true, Bool.true_and, restDigits, List.drop_zero] using hq
      exact h2
    · have hP : P = false := by
        have : ¬ (s[0]'(by omega)).toNat = 58 := by omega
        simpa [U.port, this] using hq.symm
      subst hP
      clear hq hl HP
      go_enter Try.func18, Try.ntmps18
      go_wp2
      go_ret
      exact ⟨rfl, Below.refl _ _⟩
end Go.Proofs.Ytphkohpphdcjhaa
