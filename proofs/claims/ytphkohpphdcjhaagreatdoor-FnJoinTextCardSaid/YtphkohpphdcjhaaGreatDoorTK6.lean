/- The leaves of the package. -/
import Derived.Test.YtphkohpphdcjhaaGreatDoorTK3
namespace Go.Proofs.YtphkohpphdcjhaaGreatDoor
open Go.RowKit Go.Proofs.YtphkohpphdcjhaaGreatDoorW.PrintWords
open U (L S)

/-- What the package's table holds. -/
def tab : List Nat := [0, 0, 0, 0, 0, 0, 0, 0, 0, 0, 0, 0, 0, 0, 0, 0, 0, 0, 0, 0, 0, 0, 0, 0, 0, 0, 0, 0, 0, 0, 0, 0, 0, 76, 12, 0, 95, 0, 95, 12, 76, 76, 76, 95, 93, 127, 127, 65, 255, 255, 255, 255, 255, 255, 255, 255, 255, 255, 79, 93, 12, 95, 12, 64, 67, 255, 255, 255, 255, 255, 255, 127, 127, 127, 127, 127, 127, 127, 127, 127, 127, 127, 127, 127, 127, 127, 127, 127, 127, 127, 127, 12, 0, 12, 0, 127, 0, 255, 255, 255, 255, 255, 255, 127, 127, 127, 127, 127, 127, 127, 127, 127, 127, 127, 127, 127, 127, 127, 127, 127, 127, 127, 127, 0, 0, 0, 127, 0, 0, 0, 0, 0, 0, 0, 0, 0, 0, 0, 0, 0, 0, 0, 0, 0, 0, 0, 0, 0, 0, 0, 0, 0, 0, 0, 0, 0, 0, 0, 0, 0, 0, 0, 0, 0, 0, 0, 0, 0, 0, 0, 0, 0, 0, 0, 0, 0, 0, 0, 0, 0, 0, 0, 0, 0, 0, 0, 0, 0, 0, 0, 0, 0, 0, 0, 0, 0, 0, 0, 0, 0, 0, 0, 0, 0, 0, 0, 0, 0, 0, 0, 0, 0, 0, 0, 0, 0, 0, 0, 0, 0, 0, 0, 0, 0, 0, 0, 0, 0, 0, 0, 0, 0, 0, 0, 0, 0, 0, 0, 0, 0, 0, 0, 0, 0, 0, 0, 0, 0, 0, 0, 0, 0, 0, 0, 0, 0]
/-- The table stands in memory. -/
def Tab (w : World) : Prop := ∀ n, n < 256 → w.cell? ⟨0, n, none⟩ = some (.int .u8 ((tab.getD n 0 : Nat) : Int))
theorem Tab.lt {w : World} (h : Tab w) : 0 < w.heap.size := World.block_lt_of_cell? w ⟨0, 0, none⟩ (h 0 (by decide))
theorem Tab.keep {w w' : World} {B : Nat} (h : Tab w) (hb : Below B w w') (hB : 0 < B) : Tab w' := fun n hn => (hb.cell (p := ⟨0, n, none⟩) hB).trans (h n hn)
theorem Tab.below {w w' : World} (h : Tab w) (hb : Below w.heap.size w w') : Tab w' := h.keep hb h.lt
theorem Tab.drewN {w : World} (h : Tab w) (n : Nat) : Tab (w.drewN n) := h
theorem Tab.alloc {w : World} (h : Tab w) (o : Obj) : Tab (w.alloc o) := h.below ((Below.refl _ _).alloc (Nat.le_refl _) o)
theorem Tab.only {w w' : World} {g : Nat} (h : Tab w) (ho : Only g w w') (hg : g ≠ 0) : Tab w' := fun n hn => (World.cell?_of_block (w := w) (ho.block 0 h.lt (fun e => hg e.symm))).trans (h n hn)

/-- The package's mode at a place. -/
def mode : Nat → Int
  | 0 => 1
  | 1 => 16
  | 2 => 4
  | _ => 64
theorem tab_lt : ∀ n, n < 256 → tab.getD n 0 < 256 := by decide +kernel
theorem tab_free (w : Nat) (c : UInt8) : (Go.bits .and .u8 ((tab.getD c.toNat 0 : Nat) : Int) (mode w) == 0) = !U.free w c := by
  have h : ∀ n, n < 256 → ∀ w, w < 4 → (Go.bits .and .u8 ((tab.getD n 0 : Nat) : Int) (mode w) == 0) = !U.free w (UInt8.ofNat n) := by decide +kernel
  have hc : UInt8.ofNat c.toNat = c := by simp
  match w with
  | 0 => have := h c.toNat c.toNat_lt 0 (by decide); rwa [hc] at this
  | 1 => have := h c.toNat c.toNat_lt 1 (by decide); rwa [hc] at this
  | 2 => have := h c.toNat c.toNat_lt 2 (by decide); rwa [hc] at this
  | w + 3 => have := h c.toNat c.toNat_lt 3 (by decide); rw [hc] at this; exact this
def isHex (c : UInt8) : Bool := decide (0 ≤ U.hexv c)
theorem tab_hex (c : UInt8) : (Go.bits .and .u8 ((tab.getD c.toNat 0 : Nat) : Int) 128 != 0) = isHex c := by
  have h : ∀ n, n < 256 → (Go.bits .and .u8 ((tab.getD n 0 : Nat) : Int) 128 != 0) = isHex (UInt8.ofNat n) := by decide +kernel
  have hc : UInt8.ofNat c.toNat = c := by simp
  have := h c.toNat c.toNat_lt
  rwa [hc] at this

set_option maxHeartbeats 400000 in
theorem i_shouldEscape (c : UInt8) (w : Nat) (n m : Int) (b : Bool) (W : World) (hT : Tab W) (hn : n = (c.toNat : Int)) (hm : m = mode w) (H : Hid ((!U.free w c) = b)) :
    Calls Tryz.prog 98 #[.int .u8 n, .int .u8 m] W fun e w' => e = .returned (.bool b) ∧ W = w' := by
  subst hn
  have hc := hT c.toNat c.toNat_lt
  have h0 := c.toNat_lt
  have hb := (tab_free w c).trans H.out
  rw [← hm] at hb
  obtain ⟨t, ht⟩ : ∃ t, ((tab.getD c.toNat 0 : Nat) : Int) = t := ⟨_, rfl⟩
  rw [ht] at hb hc
  have HB := Lib.hid hb
  clear H hT hb ht hm
  go_enter Tryz.func98, Tryz.ntmps98
  go_wp2_with fail
  go_ret
  exact ⟨congrArg (fun x => Ending.returned (.bool x)) HB.out, rfl⟩
set_option maxHeartbeats 400000 in
theorem i_ishex (c : UInt8) (n : Int) (b : Bool) (W : World) (hT : Tab W) (hn : n = (c.toNat : Int)) (H : Hid (isHex c = b)) :
    Calls Tryz.prog 99 #[.int .u8 n] W fun e w' => e = .returned (.bool b) ∧ W = w' := by
  subst hn
  have hc := hT c.toNat c.toNat_lt
  have h0 := c.toNat_lt
  have hb := (tab_hex c).trans H.out
  obtain ⟨t, ht⟩ : ∃ t, ((tab.getD c.toNat 0 : Nat) : Int) = t := ⟨_, rfl⟩
  rw [ht] at hb hc
  have HB := Lib.hid hb
  clear H hT hb ht
  go_enter Tryz.func99, Tryz.ntmps99
  go_wp2_with fail
  go_ret
  exact ⟨congrArg (fun x => Ending.returned (.bool x)) HB.out, rfl⟩

theorem unhex_eq : ∀ n, n < 256 → isHex (UInt8.ofNat n) = true → 9 * ((n : Int) / 64) + (n : Int) % 16 = U.hexv (UInt8.ofNat n) := by decide +kernel
set_option maxHeartbeats 400000 in
theorem i_unhex (c : UInt8) (n r : Int) (W : World) (hn : n = (c.toNat : Int)) (hx : isHex c = true) (H : Hid (U.hexv c = r)) :
    Calls Tryz.prog 100 #[.int .u8 n] W fun e w' => e = .returned (.int .u8 r) ∧ W = w' := by
  subst hn
  have h0 := c.toNat_lt
  have hb := unhex_eq c.toNat h0 (by simpa using hx)
  rw [show UInt8.ofNat c.toNat = c by simp, H.out] at hb
  obtain ⟨n, hnn⟩ : ∃ n : Nat, c.toNat = n := ⟨_, rfl⟩
  rw [hnn] at h0 hb ⊢
  have HB := Lib.hid hb
  clear H hx hb hnn
  go_enter Tryz.func100, Tryz.ntmps100
  go_wp2_with fail
  go_ret
  exact ⟨congrArg (fun x => Ending.returned (.int .u8 x)) HB.out, rfl⟩

/-! ### Searches -/
/-- One byte as a text. -/
def one (c : UInt8) : ByteArray := S [c]
theorem L_one (c : UInt8) : L (one c) = [c] := rfl
theorem slice_one (s : ByteArray) (i : Nat) (h : i < s.size) (c : UInt8) : ((s.extract i (i + 1)).toList == [c]) = decide (s[i]'h = c) := by
  rw [U.toList_L, U.ext_S, U.L_S, U.drop_at _ _ (show i < (L s).length by rw [U.len_L]; exact h), show i + 1 - i = 1 by omega, List.take_succ_cons, List.take_zero]
  show ([s[i]'h] == [c]) = _
  rw [Bool.eq_iff_iff]
  simp

set_option maxHeartbeats 800000 in
/-- zzIndex at one byte. -/
theorem i_index (s sub : ByteArray) (c : UInt8) (r : Int) (w : World) (hs : Sm s) (hsub : sub = one c) (H : Hid ((if U.idx c (L s) < s.size then (U.idx c (L s) : Int) else -1) = r)) :
    Calls Tryz.prog 96 #[.string s, .string sub] w fun e w' => e = .returned (.int .i64 r) ∧ w = w' := by
  have hz : sub.size = 1 := by rw [hsub]; rfl
  have hl : sub.toList = [c] := by rw [hsub, U.toList_L]; rfl
  clear hsub
  go_enter Tryz.func96, Tryz.ntmps96
  go_wp2_with fail
  go_loop [5] (fun i => ∃ k : Nat, k ≤ s.size ∧ i = .int .i64 k ∧ Hid (U.idx c (L s) = k + U.idx c ((L s).drop k))) (fun i => s.size - (intOf i).toNat)
  case atStart => exact ⟨0, Nat.zero_le _, rfl, Lib.hid (by simp)⟩
  case round =>
    obtain ⟨k, hk, rfl, HK⟩ := hrel
    by_cases hlt : k < s.size
    · have he := slice_one s k hlt c
      by_cases hc : s[k]'hlt = c
      · have hr : r = k := by
          have h1 := HK.out
          rw [U.idx_drop _ _ _ (by rw [U.len_L]; exact hlt), if_pos (show (L s)[k]'(by rw [U.len_L]; exact hlt) = c from hc)] at h1
          rw [← H.out, if_pos (by omega)]
          omega
        subst hr
        rw [decide_eq_true hc] at he
        clear hc HK H
        go_wp2_with fail
        go_ret
        exact ⟨rfl, rfl⟩
      · have HK2 : Hid (U.idx c (L s) = (k + 1) + U.idx c ((L s).drop (k + 1))) := by
          have h1 := HK.out
          rw [U.idx_drop _ _ _ (by rw [U.len_L]; exact hlt), if_neg (show ¬ (L s)[k]'(by rw [U.len_L]; exact hlt) = c from hc)] at h1
          exact Lib.hid (by omega)
        rw [decide_eq_false hc] at he
        clear hc HK
        go_wp2_with fail
        go_round
        case rel => exact ⟨k + 1, by omega, by go_num, HK2⟩
        case measure => simp [intOf]; omega
    · have hr : r = -1 := by
        have h1 := HK.out
        rw [List.drop_eq_nil_of_le (by rw [U.len_L]; omega)] at h1
        simp only [U.idx] at h1
        rw [← H.out, if_neg (by omega)]
      subst hr
      clear H HK
      go_wp2_with fail
      go_ret
      exact ⟨rfl, rfl⟩
theorem i_index_no (s sub : ByteArray) (c : UInt8) (w : World) (hs : Sm s) (hsub : sub = one c) (H : Hid ((U.cut c (L s)).2.2 = false)) :
    Calls Tryz.prog 96 #[.string s, .string sub] w fun e w' => e = .returned (.int .i64 (-1)) ∧ w = w' :=
  i_index s sub c (-1) w hs hsub (by
    have : ¬ U.idx c (L s) < (L s).length := of_decide_eq_false H.out
    rw [U.len_L] at this
    rw [if_neg this]
    exact Lib.hid rfl)
theorem i_index_yes (s sub : ByteArray) (c : UInt8) (r : Int) (w : World) (hs : Sm s) (hsub : sub = one c) (H : Hid ((U.cut c (L s)).2.2 = true)) (hr : r = U.idx c (L s)) :
    Calls Tryz.prog 96 #[.string s, .string sub] w fun e w' => e = .returned (.int .i64 r) ∧ w = w' :=
  i_index s sub c r w hs hsub (by
    have : U.idx c (L s) < (L s).length := of_decide_eq_true H.out
    rw [U.len_L] at this
    rw [if_pos this, hr]
    exact Lib.hid rfl)

theorem among_idx (c : UInt8) : ∀ l : U.B, U.among c l = decide (U.idx c l < l.length)
  | [] => by simp [U.among, U.idx]
  | x :: r => by
    have ih := among_idx c r
    unfold U.among at ih
    by_cases h : x = c
    · simp [U.among, U.idx, h]
    · simp [U.among, U.idx, h, ih]

set_option maxHeartbeats 400000 in
/-- zzContains at one byte. -/
theorem i_contains (s sub : ByteArray) (c : UInt8) (b : Bool) (w : World) (hs : Sm s) (hsub : sub = one c) (H : Hid (U.among c (L s) = b)) :
    Calls Tryz.prog 81 #[.string s, .string sub] w fun e w' => e = .returned (.bool b) ∧ w = w' := by
  have HS := Lib.hid hsub
  have h1 := H.out
  rw [among_idx] at h1
  clear hsub
  cases b
  · have HN : Hid ((U.cut c (L s)).2.2 = false) := h1
    clear h1 H
    go_enter Tryz.func81, Tryz.ntmps81
    go_wp2_with fail
    refine (i_index_no s sub c _ hs HS.out HN).mono ?_
    rintro e w1 ⟨rfl, rfl⟩
    go_wp2_with fail
    go_ret
    exact ⟨rfl, rfl⟩
  · have HN : Hid ((U.cut c (L s)).2.2 = true) := h1
    obtain ⟨n, Hn⟩ : ∃ n : Nat, Hid (U.idx c (L s) = n) := ⟨_, rfl⟩
    clear h1 H
    go_enter Tryz.func81, Tryz.ntmps81
    go_wp2_with fail
    refine (i_index_yes s sub c n _ hs HS.out HN (by rw [Hn.out])).mono ?_
    rintro e w1 ⟨rfl, rfl⟩
    go_wp2_with fail
    go_ret
    exact ⟨rfl, rfl⟩

set_option maxHeartbeats 400000 in
/-- zzCut at one byte. -/
theorem i_cut (s sub a b : ByteArray) (c : UInt8) (f : Bool) (w : World) (hs : Sm s) (hsub : sub = one c) (H : Hid (U.cut c (L s) = (L a, L b, f))) :
    Calls Tryz.prog 68 #[.string s, .string sub] w fun e w' => e = .returned (.tuple #[.string a, .string b, .bool f]) ∧ Drawn0 w w' := by
  have h1 := H.out
  simp only [U.cut, Prod.mk.injEq] at h1
  obtain ⟨h1, h2, h3⟩ := h1
  have hz : sub.size = 1 := by rw [hsub]; rfl
  have HS := Lib.hid hsub
  clear hsub
  cases f
  · have HN : Hid ((U.cut c (L s)).2.2 = false) := h3
    have hi : ¬ U.idx c (L s) < (L s).length := of_decide_eq_false h3
    have ha : a = s := U.L_inj (by rw [← h1, List.take_of_length_le (by omega)])
    have hb : b = E := U.L_nil (by rw [← h2, List.drop_eq_nil_of_le (by omega)])
    subst ha hb
    clear h1 h2 h3 hi H
    go_enter Tryz.func68, Tryz.ntmps68
    go_wp2_with fail
    refine (i_index_no _ sub c _ hs HS.out HN).mono ?_
    rintro e w1 ⟨rfl, rfl⟩
    go_wp2_with fail
    go_ret3
    exact ⟨rfl, Drawn0.refl _⟩
  · have HN : Hid ((U.cut c (L s)).2.2 = true) := h3
    have hi : U.idx c (L s) < (L s).length := of_decide_eq_true h3
    obtain ⟨n, Hn⟩ : ∃ n : Nat, Hid (U.idx c (L s) = n) := ⟨_, rfl⟩
    rw [Hn.out] at h1 h2 hi
    rw [U.len_L] at hi
    have HA : Hid (s.extract 0 n = a) := by rw [U.ext_to, h1, U.S_L]; exact Lib.hid rfl
    have HB : Hid (s.extract (n + 1) s.size = b) := by rw [U.ext_from, h2, U.S_L]; exact Lib.hid rfl
    clear h1 h2 h3 H
    go_enter Tryz.func68, Tryz.ntmps68
    go_wp2_with fail
    refine (i_index_yes s sub c n _ hs HS.out HN (by rw [Hn.out])).mono ?_
    rintro e w1 ⟨rfl, rfl⟩
    go_wp2_with fail
    go_quiet (fail)
    go_wp2_with fail
    go_ret3
    have ea := HA.out
    have eb := HB.out
    subst ea eb
    exact ⟨rfl, ⟨⟨_, rfl⟩⟩⟩

/-! ### Bytes that a text may not hold -/
theorem any_at (f : UInt8 → Bool) (s : ByteArray) (k : Nat) (h : k < s.size) : ((L s).drop k).any f = (f (s[k]'h) || ((L s).drop (k + 1)).any f) := by
  rw [U.drop_at _ _ (by rw [U.len_L]; exact h), List.any_cons]
  rfl
theorem any_end (f : UInt8 → Bool) (s : ByteArray) (k : Nat) (h : ¬ k < s.size) : ((L s).drop k).any f = false := by
  rw [List.drop_eq_nil_of_le (by rw [U.len_L]; omega)]
  rfl
theorem all_at (f : UInt8 → Bool) (s : ByteArray) (k : Nat) (h : k < s.size) : ((L s).drop k).all f = (f (s[k]'h) && ((L s).drop (k + 1)).all f) := by
  rw [U.drop_at _ _ (by rw [U.len_L]; exact h), List.all_cons]
  rfl
theorem all_end (f : UInt8 → Bool) (s : ByteArray) (k : Nat) (h : ¬ k < s.size) : ((L s).drop k).all f = true := by
  rw [List.drop_eq_nil_of_le (by rw [U.len_L]; omega)]
  rfl
theorem ctl_yes {c : UInt8} (h : (c.toNat : Int) < 32 ∨ (c.toNat : Int) = 127) : U.ctl1 c = true := by
  simp [U.ctl1]
  omega
theorem ctl_no {c : UInt8} (h : ¬ ((c.toNat : Int) < 32 ∨ (c.toNat : Int) = 127)) : U.ctl1 c = false := by
  simp [U.ctl1]
  omega
theorem HAny {s : ByteArray} {f : UInt8 → Bool} {P b : Bool} {k : Nat} (H : Hid (((L s).drop k).any f = P)) (h : k < s.size) (hb : f (s[k]'h) = b) : (if b then P = true else ((L s).drop (k + 1)).any f = P) := by
  have := H.out
  rw [any_at f s k h, hb] at this
  cases b
  · simpa using this
  · simpa using this.symm
theorem HAll {s : ByteArray} {f : UInt8 → Bool} {P b : Bool} {k : Nat} (H : Hid (((L s).drop k).all f = P)) (h : k < s.size) (hb : f (s[k]'h) = b) : (if b then ((L s).drop (k + 1)).all f = P else P = false) := by
  have := H.out
  rw [all_at f s k h, hb] at this
  cases b
  · simpa using this.symm
  · simpa using this
theorem ret_bool {a b : Bool} (h : b = a) : Ending.returned (.bool a) = .returned (.bool b) := by rw [h]

set_option maxHeartbeats 400000 in
theorem i_ctl (s : ByteArray) (P : Bool) (w : World) (hs : Sm s) (H : Hid ((L s).any U.ctl1 = P)) :
    Calls Tryz.prog 90 #[.string s] w fun e w' => e = .returned (.bool P) ∧ w = w' := by
  go_enter Tryz.func90, Tryz.ntmps90
  go_wp2_with fail
  go_loop [3] (fun i => ∃ k : Nat, k ≤ s.size ∧ i = .int .i64 k ∧ Hid (((L s).drop k).any U.ctl1 = P)) (fun i => s.size - (intOf i).toNat)
  case atStart => exact ⟨0, Nat.zero_le _, rfl, H⟩
  case round =>
    clear H
    obtain ⟨k, hk, rfl, H⟩ := hrel
    by_cases hlt : k < s.size
    · obtain ⟨c, HC⟩ : ∃ c, Hid (s[k]'hlt = c) := ⟨_, rfl⟩
      have h1 := HAny H hlt (b := true)
      have h0 := HAny H hlt (b := false)
      rw [HC.out] at h1 h0
      have H1 := Lib.hid h1
      have H0 := Lib.hid h0
      clear h1 h0
      by_cases hc : (c.toNat : Int) < 32 ∨ (c.toNat : Int) = 127
      · have hP : P = true := H1.out (ctl_yes hc)
        subst hP
        rw [← HC.out] at hc
        clear H H0 H1
        rcases hc with hc | hc
        all_goals
          go_wp2_with fail
          go_ret
          exact ⟨rfl, rfl⟩
      · have HP : Hid (((L s).drop (k + 1)).any U.ctl1 = P) := H0.out (ctl_no hc)
        rw [← HC.out] at hc
        have hc1 : ¬ ((s[k]'hlt).toNat : Int) < 32 := fun h => hc (.inl h)
        have hc2 : ¬ ((s[k]'hlt).toNat : Int) = 127 := fun h => hc (.inr h)
        clear H H0 H1 hc
        go_wp2_with fail
        go_round
        case rel => exact ⟨k + 1, by omega, by go_num, HP⟩
        case measure => simp [intOf]; omega
    · have hP : P = false := by rw [← H.out]; exact any_end _ s k hlt
      subst hP
      clear H
      go_wp2_with fail
      go_ret
      exact ⟨rfl, rfl⟩

/-! ### The sign that a query begins with, counted -/
def count (c : UInt8) (l : U.B) : Nat := (l.filter fun x => x == c).length
theorem count_at (c : UInt8) (s : ByteArray) (k : Nat) (h : k < s.size) : count c ((L s).drop k) = (if s[k]'h = c then 1 else 0) + count c ((L s).drop (k + 1)) := by
  rw [U.drop_at _ _ (by rw [U.len_L]; exact h)]
  unfold count
  rw [List.filter_cons]
  by_cases hc : s[k]'h = c
  · rw [if_pos hc, if_pos (show ((L s)[k]'(by rw [U.len_L]; exact h) == c) = true from beq_iff_eq.2 hc)]
    simp
    omega
  · rw [if_neg hc, if_neg (show ¬ ((L s)[k]'(by rw [U.len_L]; exact h) == c) = true from fun e => hc (beq_iff_eq.1 e))]
    omega
theorem count_le (c : UInt8) (l : U.B) : count c l ≤ l.length := List.length_filter_le _ _

set_option maxHeartbeats 800000 in
theorem i_count (s sub : ByteArray) (c : UInt8) (r : Int) (w : World) (hs : Sm s) (hsub : sub = one c) (H : Hid ((count c (L s) : Int) = r)) :
    Calls Tryz.prog 95 #[.string s, .string sub] w fun e w' => e = .returned (.int .i64 r) ∧ w = w' := by
  have hz : sub.size = 1 := by rw [hsub]; rfl
  have hl : sub.toList = [c] := by rw [hsub, U.toList_L]; rfl
  clear hsub
  go_enter Tryz.func95, Tryz.ntmps95
  go_wp2_with fail
  go_loop [5, 6] (fun n i => ∃ k m : Nat, k ≤ s.size ∧ m ≤ k ∧ i = .int .i64 k ∧ n = .int .i64 m ∧ Hid (((m + count c ((L s).drop k) : Nat) : Int) = r)) (fun _ i => s.size - (intOf i).toNat)
  case atStart => exact ⟨0, 0, Nat.zero_le _, Nat.le_refl _, rfl, rfl, Lib.hid (by simpa using H.out)⟩
  case round =>
    clear H
    obtain ⟨k, m, hk, hm, rfl, rfl, H⟩ := hrel
    by_cases hlt : k < s.size
    · have he := slice_one s k hlt c
      have hcn := count_at c s k hlt
      by_cases hc : s[k]'hlt = c
      · rw [decide_eq_true hc] at he
        rw [if_pos hc] at hcn
        have HP : Hid (((m + 1 + count c ((L s).drop (k + 1)) : Nat) : Int) = r) := Lib.hid (by rw [← H.out, hcn]; omega)
        clear H hcn hc
        go_wp2_with fail
        go_round
        case rel => exact ⟨k + 1, m + 1, by omega, by omega, by go_num, by go_num, HP⟩
        case measure => simp [intOf]; omega
      · rw [decide_eq_false hc] at he
        rw [if_neg hc] at hcn
        have HP : Hid (((m + count c ((L s).drop (k + 1)) : Nat) : Int) = r) := Lib.hid (by rw [← H.out, hcn]; omega)
        clear H hcn hc
        go_wp2_with fail
        go_round
        case rel => exact ⟨k + 1, m, by omega, by omega, by go_num, rfl, HP⟩
        case measure => simp [intOf]; omega
    · have hr : r = m := by
        rw [← H.out, List.drop_eq_nil_of_le (by rw [U.len_L]; omega)]
        simp [count]
      subst hr
      clear H
      go_wp2_with fail
      go_ret
      exact ⟨rfl, rfl⟩
end Go.Proofs.YtphkohpphdcjhaaGreatDoor
namespace Go.Proofs.YtphkohpphdcjhaaGreatDoor
open Go.RowKit Go.Proofs.YtphkohpphdcjhaaGreatDoorW.PrintWords
open U (L S)

def IsErr (v : Value) : Prop := ∃ (t : TypeId) (x : Value), v = .iface t x

set_option maxHeartbeats 400000 in
theorem i_errNew (s : ByteArray) (w : World) : Calls Tryz.prog 91 #[.string s] w fun e w' => e = .returned (.iface 116 (.pointer (some ⟨w.heap.size, 0, none⟩))) ∧ Below w.heap.size w w' := by
  go_enter Tryz.func91, Tryz.ntmps91
  go_wp2_with fail
  go_ret
  exact ⟨rfl, (Below.refl _ _).alloc (Nat.le_refl _) _⟩

theorem dec_ascii (t : ByteArray) (pos : Nat) (hp : pos < t.size) (h : (t[pos]'hp).toNat < 128) : Utf8.decode t pos = ((t[pos]'hp).toNat, 1) := decode_ascii t pos hp h
theorem iter_below (w : World) (t : ByteArray) (p : Nat) : Below w.heap.size w (w.iter t p) := (Below.refl _ _).alloc (Nat.le_refl _) _

/-- Which bytes may stand in a user, in numbers. -/
def userN (n : Int) : Prop := 65 ≤ n ∧ n ≤ 90 ∨ 97 ≤ n ∧ n ≤ 122 ∨ 48 ≤ n ∧ n ≤ 57 ∨ n = 45 ∨ n = 46 ∨ n = 95 ∨ n = 58 ∨ n = 126 ∨ n = 33 ∨ n = 36 ∨ n = 38 ∨ n = 39 ∨ n = 40 ∨ n = 41 ∨ n = 42 ∨ n = 43 ∨ n = 44 ∨ n = 59 ∨ n = 61 ∨ n = 37 ∨ n = 64
instance (n : Int) : Decidable (userN n) := by unfold userN; infer_instance
theorem user_is (c : UInt8) : U.user1 c = decide (userN c.toNat) := by
  have h : ∀ n, n < 256 → U.user1 (UInt8.ofNat n) = decide (userN n) := by decide +kernel
  have := h c.toNat c.toNat_lt
  rwa [show UInt8.ofNat c.toNat = c by simp] at this

set_option maxRecDepth 100000 in
set_option maxHeartbeats 4000000 in
theorem i_validUser (s : ByteArray) (P : Bool) (w : World) (H : Hid ((L s).all U.user1 = P)) :
    Calls Tryz.prog 111 #[.string s] w fun e w' => e = .returned (.bool P) ∧ Below w.heap.size w w' := by
  go_enter Tryz.func111, Tryz.ntmps111
  go_wp2_with fail
  go_loopw [4] (fun _ w' => ∃ pos : Nat, w' = w.iter s pos ∧ Hid (((L s).drop pos).all U.user1 = P)) (fun _ w' => s.size - w'.iterPos w.heap.size)
  case atStart => exact ⟨0, rfl, H⟩
  case round =>
    clear H
    obtain ⟨pos, rfl, H⟩ := hrel
    by_cases hp : pos < s.size
    · have hnx : ∀ ty, (Instr.next (.pointer (some ⟨w.heap.size, 0, none⟩)) true ty).run Tryz.prog (w.iter s pos) = _ := fun ty => run_next_any w s pos ty hp
      by_cases ha : (s[pos]'hp).toNat < 128
      · rw [dec_ascii s pos hp ha] at hnx
        have HU := Lib.hid (user_is (s[pos]'hp))
        obtain ⟨c, HC⟩ : ∃ c, Hid ((s[pos]'hp).toNat = c) := ⟨_, rfl⟩
        have h1 := HAll H hp (b := true)
        have h0 := HAll H hp (b := false)
        rw [HU.out, HC.out] at h1 h0
        rw [HC.out] at ha hnx
        have H1 := Lib.hid h1
        have H0 := Lib.hid h0
        clear h1 h0 H HC HU
        go_wp2_with fail
        all_goals (try simp only [beq_iff_eq, beq_eq_false_iff_ne, ne_eq] at *)
        all_goals first
          | (refine ⟨⟨pos + 1, rfl, H1.out (decide_eq_true ?_)⟩, ?_⟩ <;> (first | (unfold userN; omega) | (simp; omega)))
          | (go_ret; refine ⟨ret_bool (H0.out (decide_eq_false ?_)), iter_below w s _⟩; unfold userN; omega)
      · have hd := (decode_high s pos hp (by omega)).1
        have hP : P = false := HAll H hp (b := false) (by rw [user_is]; exact decide_eq_false (by unfold userN; omega))
        subst hP
        obtain ⟨d, Hd⟩ : ∃ d, Hid (Utf8.decode s pos = d) := ⟨_, rfl⟩
        rw [Hd.out] at hnx hd
        obtain ⟨r, n⟩ := d
        simp only at hnx hd
        clear Hd H
        go_wp2_with fail
        go_ret
        exact ⟨rfl, iter_below w s _⟩
    · have hnx : ∀ ty, (Instr.next (.pointer (some ⟨w.heap.size, 0, none⟩)) true ty).run Tryz.prog (w.iter s pos) = _ := fun ty => run_next_end w s pos ty hp
      have hP : P = true := by rw [← H.out]; exact all_end _ s pos hp
      subst hP
      clear H
      go_wp2_with fail
      go_ret
      exact ⟨rfl, iter_below w s _⟩

/-! ### Ports -/
theorem dec_digit (t : ByteArray) (pos : Nat) (hp : pos < t.size) (h : U.digit (t[pos]'hp) = true) : Utf8.decode t pos = ((t[pos]'hp).toNat, 1) := by
  simp only [U.digit, Bool.and_eq_true, decide_eq_true_eq] at h
  exact decode_ascii t pos hp (by omega)
theorem dec_not (t : ByteArray) (pos : Nat) (hp : pos < t.size) (h : U.digit (t[pos]'hp) = false) : (Utf8.decode t pos).1 < 48 ∨ 57 < (Utf8.decode t pos).1 := by
  simp only [U.digit, Bool.and_eq_false_iff, decide_eq_false_iff_not] at h
  by_cases ha : (t[pos]'hp).toNat < 128
  · rw [decode_ascii t pos hp ha]
    show (t[pos]'hp).toNat < 48 ∨ 57 < (t[pos]'hp).toNat
    omega
  · have := (decode_high t pos hp (by omega)).1
    omega

set_option maxHeartbeats 400000 in
theorem port_loopI (s : ByteArray) (w : World) (h0 : 1 ≤ s.size) (e0 : (s.toList == []) = false) (h1 : ((s[0]'(by omega)).toNat : Int) = 58) (P : Bool) (HP : Hid (((L (s.extract 1 s.size)).drop 0).all U.digit = P)) :
    Calls Tryz.prog 123 #[.string s] w fun e w' => e = .returned (.bool P) ∧ Below w.heap.size w w' := by
  go_enter Tryz.func123, Tryz.ntmps123
  go_wp2
  obtain ⟨t, Ht⟩ : ∃ t, Hid (s.extract 1 s.size = t) := ⟨_, rfl⟩
  rw [Ht.out] at HP ⊢
  clear Ht
  go_loopw [4] (fun _ w' => ∃ pos : Nat, w' = w.iter t pos ∧ Hid (((L t).drop pos).all U.digit = P)) (fun _ w' => t.size - w'.iterPos w.heap.size)
  case atStart => exact ⟨0, rfl, HP⟩
  case round =>
    clear HP
    obtain ⟨pos, rfl, HP⟩ := hrel
    by_cases hp : pos < t.size
    · by_cases hd : U.digit t[pos] = true
      · have hnx : ∀ ty, (Instr.next (.pointer (some ⟨w.heap.size, 0, none⟩)) true ty).run Tryz.prog (w.iter t pos) = _ := fun ty => run_next_any w t pos ty hp
        have hdd := dec_digit t pos hp hd
        rw [hdd] at hnx
        have HP' : Hid (((L t).drop (pos + 1)).all U.digit = P) := HAll HP hp hd
        simp only [U.digit, Bool.and_eq_true, decide_eq_true_eq] at hd
        obtain ⟨hd1, hd2⟩ := hd
        obtain ⟨c, Hc⟩ : ∃ c, Hid ((t[pos]'hp).toNat = c) := ⟨_, rfl⟩
        rw [Hc.out] at hnx hd1 hd2
        clear hdd Hc
        go_wp2
        go_roundw
        case rel => exact ⟨pos + 1, rfl, HP'⟩
        case measure => simp; omega
      · have hd : U.digit t[pos] = false := by simpa using hd
        have hnx : ∀ ty, (Instr.next (.pointer (some ⟨w.heap.size, 0, none⟩)) true ty).run Tryz.prog (w.iter t pos) = _ := fun ty => run_next_any w t pos ty hp
        have hdd := dec_not t pos hp hd
        have hP : P = false := HAll HP hp hd
        subst hP
        obtain ⟨d, Hdd⟩ : ∃ d, Hid ((Utf8.decode t pos) = d) := ⟨_, rfl⟩
        rw [Hdd.out] at hnx hdd
        clear Hdd hd
        obtain ⟨c, n⟩ := d
        simp only at hnx hdd
        rcases hdd with hdd | hdd
        all_goals
          go_wp2
          go_ret
          exact ⟨rfl, iter_below w t _⟩
    · have hnx : ∀ ty, (Instr.next (.pointer (some ⟨w.heap.size, 0, none⟩)) true ty).run Tryz.prog (w.iter t pos) = _ := fun ty => run_next_end w t pos ty hp
      have hP : P = true := by rw [← HP.out]; exact all_end _ t pos hp
      subst hP
      go_wp2
      go_ret
      exact ⟨rfl, iter_below w t _⟩

/-- validOptionalPort: empty, or a colon and figures. -/
theorem i_port (s : ByteArray) (w : World) (P : Bool) (HP : Hid (U.port (L s) = P)) :
    Calls Tryz.prog 123 #[.string s] w fun e w' => e = .returned (.bool P) ∧ Below w.heap.size w w' := by
  by_cases h0 : s.size = 0
  · have e1 : L s = [] := List.eq_nil_of_length_eq_zero (by rw [U.len_L]; exact h0)
    have hP : P = true := by have := HP.out; rw [e1] at this; exact this.symm
    subst hP
    have e2 : (s.toList == []) = true := by rw [U.toList_L, e1]; rfl
    clear e1 h0 HP
    go_enter Tryz.func123, Tryz.ntmps123
    go_wp2
    go_ret
    exact ⟨rfl, Below.refl _ _⟩
  · have h0 : 1 ≤ s.size := by omega
    have e0 : (s.toList == []) = false := by
      rw [U.toList_L]
      cases h : L s with
      | nil => have : s.size = 0 := by rw [← U.len_L, h]; rfl
               omega
      | cons _ _ => rfl
    have hl : L s = s[0]'(by omega) :: L (s.extract 1 s.size) := by
      rw [U.ext_from, U.L_S]
      have := U.drop_at (L s) 0 (by rw [U.len_L]; omega)
      rw [List.drop_zero] at this
      exact this
    have hq := HP.out
    rw [hl] at hq
    by_cases h1 : ((s[0]'(by omega)).toNat : Int) = 58
    · refine port_loopI s w h0 e0 h1 P ?_
      have : (s[0]'(by omega)).toNat = 58 := by omega
      have h2 : ((L (s.extract 1 s.size)).drop 0).all U.digit = P := by simpa only [U.port, this, decide_true, Bool.true_and, List.drop_zero] using hq
      exact h2
    · have hP : P = false := by
        have : ¬ (s[0]'(by omega)).toNat = 58 := by omega
        simpa [U.port, this] using hq.symm
      subst hP
      clear hq hl HP
      go_enter Tryz.func123, Tryz.ntmps123
      go_wp2
      go_ret
      exact ⟨rfl, Below.refl _ _⟩

/-! ### What may stand in a path or a fragment as it is -/
def keptN (n : Int) : Prop := n = 33 ∨ n = 36 ∨ n = 38 ∨ n = 39 ∨ n = 40 ∨ n = 41 ∨ n = 42 ∨ n = 43 ∨ n = 44 ∨ n = 59 ∨ n = 61 ∨ n = 58 ∨ n = 64 ∨ n = 91 ∨ n = 93 ∨ n = 37
instance (n : Int) : Decidable (keptN n) := by unfold keptN; infer_instance
theorem kept_is (w : Nat) (c : UInt8) : U.kept1 w c = (decide (keptN c.toNat) || U.free w c) := by
  have h : ∀ n, n < 256 → U.among (UInt8.ofNat n) [33, 36, 38, 39, 40, 41, 42, 43, 44, 59, 61, 58, 64, 91, 93, 37] = decide (keptN n) := by decide +kernel
  have := h c.toNat c.toNat_lt
  rw [show UInt8.ofNat c.toNat = c by simp] at this
  rw [U.kept1, this]

set_option maxRecDepth 100000 in
set_option maxHeartbeats 4000000 in
theorem i_kept (s : ByteArray) (w : Nat) (m : Int) (P : Bool) (W : World) (hs : Sm s) (hT : Tab W) (hm : m = mode w) (H : Hid (U.kept w (L s) = P)) :
    Calls Tryz.prog 72 #[.string s, .int .u8 m] W fun e w' => e = .returned (.bool P) ∧ W = w' := by
  have HM := Lib.hid hm
  have HT := Lib.hid hT
  clear hm hT
  go_enter Tryz.func72, Tryz.ntmps72
  go_wp2_with fail
  go_loop [5] (fun i => ∃ k : Nat, k ≤ s.size ∧ i = .int .i64 k ∧ Hid (((L s).drop k).all (U.kept1 w) = P)) (fun i => s.size - (intOf i).toNat)
  case atStart => exact ⟨0, Nat.zero_le _, rfl, H⟩
  case round =>
    clear H
    obtain ⟨k, hk, rfl, H⟩ := hrel
    by_cases hlt : k < s.size
    · obtain ⟨b, HF⟩ : ∃ b, Hid ((!U.free w (s[k]'hlt)) = b) := ⟨_, rfl⟩
      have HK : Hid (U.kept1 w (s[k]'hlt) = (decide (keptN (s[k]'hlt).toNat) || !b)) := by
        rw [kept_is, ← HF.out, Bool.not_not]
        exact Lib.hid rfl
      have hcl := (s[k]'hlt).toNat_lt
      have H1 : Hid (keptN ((s[k]'hlt).toNat : Int) → ((L s).drop (k + 1)).all (U.kept1 w) = P) := fun h => HAll H hlt (b := true) (by rw [HK.out, decide_eq_true h]; rfl)
      have H2 : Hid (b = false → ((L s).drop (k + 1)).all (U.kept1 w) = P) := fun h => HAll H hlt (b := true) (by rw [HK.out, h]; simp)
      have H3 : Hid (b = true → ¬ keptN ((s[k]'hlt).toNat : Int) → P = false) := fun h h' => HAll H hlt (b := false) (by rw [HK.out, h, decide_eq_false h']; rfl)
      clear HK H
      go_wp2_with fail
      rotate_right
      · refine (i_shouldEscape (s[k]'hlt) w _ m b _ HT.out rfl HM.out HF).mono ?_
        rintro e w1 ⟨rfl, rfl⟩
        cases b
        · go_wp2_with fail
          exact ⟨⟨k + 1, by omega, by go_num, H2.out (by simp)⟩, by simp [intOf]; omega⟩
        · go_wp2_with fail
          go_ret
          refine ⟨ret_bool (H3.out (by simp) ?_), rfl⟩
          simp only [beq_eq_false_iff_ne, ne_eq] at *
          unfold keptN
          omega
      all_goals
        refine ⟨⟨k + 1, by omega, by go_num, H1.out ?_⟩, by simp [intOf]; omega⟩
        simp only [beq_iff_eq, beq_eq_false_iff_ne, ne_eq] at *
        unfold keptN
        omega
    · have hP : P = true := by rw [← H.out]; exact all_end _ s k hlt
      subst hP
      clear H
      go_wp2_with fail
      go_ret
      exact ⟨rfl, rfl⟩
end Go.Proofs.YtphkohpphdcjhaaGreatDoor
namespace Go.Proofs.YtphkohpphdcjhaaGreatDoor
open Go.RowKit Go.Proofs.YtphkohpphdcjhaaGreatDoorW.PrintWords
open U (L S)

/-- What getScheme hands back. -/
def SchemePost (w : World) (o : U.B × U.B × Bool) (e : Ending) (w' : World) : Prop :=
  Below w.heap.size w w' ∧ match o with
  | (a, b, true) => e = .returned (.tuple #[.string (S a), .string (S b), .nilIface])
  | (_, _, false) => ∃ v, IsErr v ∧ e = .returned (.tuple #[.string E, .string E, v])

def letN (n : Int) : Prop := 97 ≤ n ∧ n ≤ 122 ∨ 65 ≤ n ∧ n ≤ 90
def figN (n : Int) : Prop := 48 ≤ n ∧ n ≤ 57 ∨ n = 43 ∨ n = 45 ∨ n = 46
instance (n : Int) : Decidable (letN n) := by unfold letN; infer_instance
instance (n : Int) : Decidable (figN n) := by unfold figN; infer_instance
theorem letter_n (c : UInt8) : U.letter c = decide (letN c.toNat) := by
  have h : ∀ n, n < 256 → U.letter (UInt8.ofNat n) = decide (letN n) := by decide +kernel
  have := h c.toNat c.toNat_lt
  rwa [show UInt8.ofNat c.toNat = c by simp] at this
theorem fig_n (c : UInt8) : (U.digit c || U.among c [43, 45, 46]) = decide (figN c.toNat) := by
  have h : ∀ n, n < 256 → (U.digit (UInt8.ofNat n) || U.among (UInt8.ofNat n) [43, 45, 46]) = decide (figN n) := by decide +kernel
  have := h c.toNat c.toNat_lt
  rwa [show UInt8.ofNat c.toNat = c by simp] at this

/-- One step of the look for a scheme. -/
theorem sch_at (s : ByteArray) (k : Nat) (h : k < s.size) : U.sch (L s) ((L s).drop k) k =
    if letN (s[k]'h).toNat then U.sch (L s) ((L s).drop (k + 1)) (k + 1)
    else if figN (s[k]'h).toNat then (if k = 0 then ([], L s, true) else U.sch (L s) ((L s).drop (k + 1)) (k + 1))
    else if (s[k]'h).toNat = 58 then ((L s).take k, (L s).drop (k + 1), decide (0 < k)) else ([], L s, true) := by
  rw [U.drop_at _ _ (by rw [U.len_L]; exact h)]
  show U.sch (L s) ((s[k]'h) :: _) k = _
  rw [U.sch, letter_n, fig_n]
  simp only [decide_eq_true_eq]

theorem scheme_none {w w' : World} {s : ByteArray} (h : Below w.heap.size w w') : SchemePost w ([], L s, true) (.returned (.tuple #[.string ⟨#[]⟩, .string s, .nilIface])) w' :=
  ⟨h, by show _ = Ending.returned (.tuple #[.string (S []), .string (S (L s)), .nilIface]); rw [U.S_L]; rfl⟩

set_option maxRecDepth 100000 in
set_option maxHeartbeats 4000000 in
theorem i_getScheme (s : ByteArray) (w : World) (hs : Sm s) : Calls Tryz.prog 92 #[.string s] w (SchemePost w (U.scheme (L s))) := by
  obtain ⟨o, HO⟩ : ∃ o, Hid (U.scheme (L s) = o) := ⟨_, rfl⟩
  rw [HO.out]
  go_enter Tryz.func92, Tryz.ntmps92
  go_wp2_with fail
  go_loop [5] (fun i => ∃ k : Nat, k ≤ s.size ∧ i = .int .i64 k ∧ Hid (U.sch (L s) ((L s).drop k) k = o)) (fun i => s.size - (intOf i).toNat)
  case atStart => exact ⟨0, Nat.zero_le _, rfl, HO⟩
  case round =>
    clear HO
    obtain ⟨k, hk, rfl, H⟩ := hrel
    by_cases hlt : k < s.size
    · have h1 := H.out
      rw [sch_at s k hlt] at h1
      obtain ⟨c, HC⟩ : ∃ c, Hid ((s[k]'hlt).toNat = c) := ⟨_, rfl⟩
      rw [HC.out] at h1
      have HX : Hid ((if letN c then U.sch (L s) ((L s).drop (k + 1)) (k + 1)
        else if figN c then (if k = 0 then ([], L s, true) else U.sch (L s) ((L s).drop (k + 1)) (k + 1))
        else if c = 58 then ((L s).take k, (L s).drop (k + 1), decide (0 < k)) else ([], L s, true)) = o) := h1
      clear h1 H
      by_cases hl : letN c
      · have HP : Hid (U.sch (L s) ((L s).drop (k + 1)) (k + 1) = o) := by have := HX.out; rwa [if_pos hl] at this
        rw [← HC.out] at hl
        clear HX
        rcases hl with ⟨l1, l2⟩ | ⟨l1, l2⟩
        all_goals
          go_wp2_with fail
          exact ⟨⟨k + 1, by omega, by go_num, HP⟩, by simp [intOf]; omega⟩
      · by_cases hf : figN c
        · have hx := HX.out
          rw [if_neg hl, if_pos hf] at hx
          have HX2 := Lib.hid hx
          clear HX hx
          have hc : (((s[k]'hlt).toNat : Int) < 65) := by rw [HC.out]; unfold figN at hf; omega
          rw [← HC.out] at hf
          by_cases h0 : k = 0
          · have ho : o = ([], L s, true) := by rw [← HX2.out, if_pos h0]
            subst ho
            subst h0
            clear HX2 hl
            rcases hf with ⟨l1, l2⟩ | l1 | l1 | l1
            all_goals
              go_wp2_with fail
              go_ret3
              exact scheme_none (Below.refl _ _)
          · have HP : Hid (U.sch (L s) ((L s).drop (k + 1)) (k + 1) = o) := by have := HX2.out; rwa [if_neg h0] at this
            have h0' : ((k : Int) == 0) = false := by simp; omega
            clear HX2 hl h0
            rcases hf with ⟨l1, l2⟩ | l1 | l1 | l1
            all_goals
              go_wp2_with fail
              exact ⟨⟨k + 1, by omega, by go_num, HP⟩, by simp [intOf]; omega⟩
        · have hx := HX.out
          rw [if_neg hl, if_neg hf] at hx
          have HX2 := Lib.hid hx
          clear HX hx
          by_cases h58 : c = 58
          · have hq := HX2.out
            rw [if_pos h58] at hq
            have hc : ((s[k]'hlt).toNat : Int) = 58 := by rw [HC.out]; omega
            by_cases h0 : k = 0
            · subst h0
              have ho : o = ((L s).take 0, (L s).drop (0 + 1), false) := hq.symm
              subst ho
              clear HX2 hl hf hq h58 HC
              go_wp2_with fail
              refine (i_errNew _ _).mono ?_
              rintro e w1 ⟨rfl, b1⟩
              go_wp2_with fail
              go_ret3
              exact ⟨b1, _, ⟨_, _, rfl⟩, rfl⟩
            · have h0' : ((k : Int) == 0) = false := by simp; omega
              have ho : o = ((L s).take k, (L s).drop (k + 1), true) := by rw [← hq, decide_eq_true (by omega)]
              subst ho
              have HA : Hid (S ((L s).take k) = s.extract 0 k) := by rw [U.ext_to]; exact Lib.hid rfl
              have HB : Hid (S ((L s).drop (k + 1)) = s.extract (k + 1) s.size) := by rw [U.ext_from]; exact Lib.hid rfl
              clear HX2 hl hf hq h58 HC h0
              go_wp2_with fail
              go_quiet (fail)
              go_wp2_with fail
              go_ret3
              refine ⟨below_n (Below.refl _ _) _, ?_⟩
              show _ = Ending.returned (.tuple #[.string (S _), .string (S _), .nilIface])
              rw [HA.out, HB.out]
              rfl
          · have ho : o = ([], L s, true) := by rw [← HX2.out, if_neg h58]
            subst ho
            have hcc : (c : Int) < 43 ∨ (c : Int) = 44 ∨ (c : Int) = 47 ∨ (59 ≤ (c : Int) ∧ (c : Int) ≤ 64) ∨ (91 ≤ (c : Int) ∧ (c : Int) ≤ 96) ∨ (123 ≤ (c : Int) ∧ (c : Int) ≤ 255) := by
              have := (s[k]'hlt).toNat_lt
              rw [HC.out] at this
              unfold letN at hl
              unfold figN at hf
              omega
            rw [← HC.out] at hcc
            have n58 : (((s[k]'hlt).toNat : Int) == 58) = false := beq_eq_false_iff_ne.2 (by rw [HC.out]; omega)
            clear HX2 hl hf h58
            rcases hcc with l | l | l | ⟨l, l2⟩ | ⟨l, l2⟩ | ⟨l, l2⟩
            · have n0 : ¬ 97 ≤ ((s[k]'hlt).toNat : Int) := by omega
              have n1 : ¬ 65 ≤ ((s[k]'hlt).toNat : Int) := by omega
              have n2 : ¬ 48 ≤ ((s[k]'hlt).toNat : Int) := by omega
              have n3 : ((s[k]'hlt).toNat : Int) ≤ 122 := by omega
              have n4 : ((s[k]'hlt).toNat : Int) ≤ 90 := by omega
              have n5 : ((s[k]'hlt).toNat : Int) ≤ 57 := by omega
              have m0 : (((s[k]'hlt).toNat : Int) == 43) = false := beq_eq_false_iff_ne.2 (by omega)
              have m1 : (((s[k]'hlt).toNat : Int) == 45) = false := beq_eq_false_iff_ne.2 (by omega)
              have m2 : (((s[k]'hlt).toNat : Int) == 46) = false := beq_eq_false_iff_ne.2 (by omega)
              clear l
              go_wp2_with fail
              go_ret3
              exact scheme_none (Below.refl _ _)
            · have n0 : ¬ 97 ≤ ((s[k]'hlt).toNat : Int) := by omega
              have n1 : ¬ 65 ≤ ((s[k]'hlt).toNat : Int) := by omega
              have n2 : ¬ 48 ≤ ((s[k]'hlt).toNat : Int) := by omega
              have n3 : ((s[k]'hlt).toNat : Int) ≤ 122 := by omega
              have n4 : ((s[k]'hlt).toNat : Int) ≤ 90 := by omega
              have n5 : ((s[k]'hlt).toNat : Int) ≤ 57 := by omega
              have m0 : (((s[k]'hlt).toNat : Int) == 43) = false := beq_eq_false_iff_ne.2 (by omega)
              have m1 : (((s[k]'hlt).toNat : Int) == 45) = false := beq_eq_false_iff_ne.2 (by omega)
              have m2 : (((s[k]'hlt).toNat : Int) == 46) = false := beq_eq_false_iff_ne.2 (by omega)
              clear l
              go_wp2_with fail
              go_ret3
              exact scheme_none (Below.refl _ _)
            · have n0 : ¬ 97 ≤ ((s[k]'hlt).toNat : Int) := by omega
              have n1 : ¬ 65 ≤ ((s[k]'hlt).toNat : Int) := by omega
              have n2 : ¬ 48 ≤ ((s[k]'hlt).toNat : Int) := by omega
              have n3 : ((s[k]'hlt).toNat : Int) ≤ 122 := by omega
              have n4 : ((s[k]'hlt).toNat : Int) ≤ 90 := by omega
              have n5 : ((s[k]'hlt).toNat : Int) ≤ 57 := by omega
              have m0 : (((s[k]'hlt).toNat : Int) == 43) = false := beq_eq_false_iff_ne.2 (by omega)
              have m1 : (((s[k]'hlt).toNat : Int) == 45) = false := beq_eq_false_iff_ne.2 (by omega)
              have m2 : (((s[k]'hlt).toNat : Int) == 46) = false := beq_eq_false_iff_ne.2 (by omega)
              clear l
              go_wp2_with fail
              go_ret3
              exact scheme_none (Below.refl _ _)
            · have n0 : ¬ 97 ≤ ((s[k]'hlt).toNat : Int) := by omega
              have n1 : ¬ 65 ≤ ((s[k]'hlt).toNat : Int) := by omega
              have n2 : 48 ≤ ((s[k]'hlt).toNat : Int) := by omega
              have n3 : ((s[k]'hlt).toNat : Int) ≤ 122 := by omega
              have n4 : ((s[k]'hlt).toNat : Int) ≤ 90 := by omega
              have n5 : ¬ ((s[k]'hlt).toNat : Int) ≤ 57 := by omega
              have m0 : (((s[k]'hlt).toNat : Int) == 43) = false := beq_eq_false_iff_ne.2 (by omega)
              have m1 : (((s[k]'hlt).toNat : Int) == 45) = false := beq_eq_false_iff_ne.2 (by omega)
              have m2 : (((s[k]'hlt).toNat : Int) == 46) = false := beq_eq_false_iff_ne.2 (by omega)
              clear l l2
              go_wp2_with fail
              go_ret3
              exact scheme_none (Below.refl _ _)
            · have n0 : ¬ 97 ≤ ((s[k]'hlt).toNat : Int) := by omega
              have n1 : 65 ≤ ((s[k]'hlt).toNat : Int) := by omega
              have n2 : 48 ≤ ((s[k]'hlt).toNat : Int) := by omega
              have n3 : ((s[k]'hlt).toNat : Int) ≤ 122 := by omega
              have n4 : ¬ ((s[k]'hlt).toNat : Int) ≤ 90 := by omega
              have n5 : ¬ ((s[k]'hlt).toNat : Int) ≤ 57 := by omega
              have m0 : (((s[k]'hlt).toNat : Int) == 43) = false := beq_eq_false_iff_ne.2 (by omega)
              have m1 : (((s[k]'hlt).toNat : Int) == 45) = false := beq_eq_false_iff_ne.2 (by omega)
              have m2 : (((s[k]'hlt).toNat : Int) == 46) = false := beq_eq_false_iff_ne.2 (by omega)
              clear l l2
              go_wp2_with fail
              go_ret3
              exact scheme_none (Below.refl _ _)
            · have n0 : 97 ≤ ((s[k]'hlt).toNat : Int) := by omega
              have n1 : 65 ≤ ((s[k]'hlt).toNat : Int) := by omega
              have n2 : 48 ≤ ((s[k]'hlt).toNat : Int) := by omega
              have n3 : ¬ ((s[k]'hlt).toNat : Int) ≤ 122 := by omega
              have n4 : ¬ ((s[k]'hlt).toNat : Int) ≤ 90 := by omega
              have n5 : ¬ ((s[k]'hlt).toNat : Int) ≤ 57 := by omega
              have m0 : (((s[k]'hlt).toNat : Int) == 43) = false := beq_eq_false_iff_ne.2 (by omega)
              have m1 : (((s[k]'hlt).toNat : Int) == 45) = false := beq_eq_false_iff_ne.2 (by omega)
              have m2 : (((s[k]'hlt).toNat : Int) == 46) = false := beq_eq_false_iff_ne.2 (by omega)
              clear l l2
              go_wp2_with fail
              go_ret3
              exact scheme_none (Below.refl _ _)
    · have ho : o = ([], L s, true) := by
        rw [← H.out, List.drop_eq_nil_of_le (by rw [U.len_L]; omega)]
        rfl
      subst ho
      clear H
      go_wp2_with fail
      go_ret3
      exact scheme_none (Below.refl _ _)
end Go.Proofs.YtphkohpphdcjhaaGreatDoor
