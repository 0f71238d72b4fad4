/- The contracts of the small functions of the reference. -/
import Derived.Test.YtphkohpphdcjhaaGreatDoorTPFnJoinTextx4
import Derived.Test.YtphkohpphdcjhaaGreatDoorTK1
import Derived.Lib.Hide
import Derived.Test.YtphkohpphdcjhaaGreatDoorTPFnJoinTextx3
namespace Go.Proofs.YtphkohpphdcjhaaGreatDoor
open Go.RowKit PFnJoinText Go.Proofs.YtphkohpphdcjhaaGreatDoorW.PrintWords
open U (L S)

/-- Small: no sum over such texts is beyond the words. -/
abbrev Sm (s : ByteArray) : Prop := s.size ≤ 1000000000

theorem wrap_of {x : Int} (h0 : -9223372036854775808 ≤ x) (h1 : x < 9223372036854775808) : wrap64 x = x := by
  unfold wrap64
  omega
theorem bt_L (s : ByteArray) (i : Nat) (h : i < (L s).length) : bt s (i : Int) = (((L s)[i]'h).toNat : Int) :=
  (bt_at s i (by rw [U.len_L] at h; simpa using h)).symm
theorem byte_eq {a b : UInt8} : (a.toNat : Int) = (b.toNat : Int) ↔ a = b :=
  ⟨fun h => UInt8.toNat_inj.1 (by omega), fun h => by rw [h]⟩

theorem letter_is (c : UInt8) : spec_letter.f (c.toNat : Int) = some (U.letter c) := by
  unfold spec_letter.f U.letter
  by_cases h1 : (c.toNat : Int) ≥ 97 <;> by_cases h2 : (c.toNat : Int) ≤ 122 <;> by_cases h3 : (c.toNat : Int) ≥ 65 <;> by_cases h4 : (c.toNat : Int) ≤ 90 <;>
    simp only [h1, h2, h3, h4, if_true, if_false, decide_true, decide_false, Option.some.injEq] <;> simp <;> omega
theorem digit_is (c : UInt8) : spec_digit.f (c.toNat : Int) = some (U.digit c) := by
  unfold spec_digit.f U.digit
  by_cases h1 : (c.toNat : Int) ≥ 48 <;> by_cases h2 : (c.toNat : Int) ≤ 57 <;>
    simp only [h1, h2, if_true, if_false, decide_true, decide_false, Option.some.injEq] <;> simp <;> omega

theorem among_loop (c : UInt8) (s : ByteArray) (hs : Sm s) (d : Nat) : ∀ (k i : Nat), i ≤ s.size → s.size - i = d → d < k →
    spec_among.l0 k c.toNat s s.size i = some (U.among c ((L s).drop i)) := by
  have hl := U.len_L s
  induction d with
  | zero =>
    intro k i hi hd hk
    obtain ⟨k, rfl⟩ : ∃ m, k = m + 1 := ⟨k - 1, by omega⟩
    simp only [spec_among.l0]
    rw [if_neg (by omega), List.drop_eq_nil_of_le (by omega)]
    rfl
  | succ d ih =>
    intro k i hi hd hk
    obtain ⟨k, rfl⟩ : ∃ m, k = m + 1 := ⟨k - 1, by omega⟩
    simp only [spec_among.l0]
    rw [if_pos (by omega), if_pos (by omega), if_pos (by omega), bt_L s i (by omega), U.drop_at _ _ (show i < (L s).length by omega)]
    by_cases h : ((L s)[i]'(by omega)) = c
    · rw [if_pos (byte_eq.2 h)]
      simp [U.among, h]
    · rw [if_neg (fun e => h (byte_eq.1 e)), wrap_of (by omega) (by omega)]
      have := ih k (i + 1) (by omega) (by omega) (by omega)
      simp only [U.among, List.any_cons, beq_eq_false_iff_ne.2 h, Bool.false_or]
      exact_mod_cast this
theorem among_is (c : UInt8) (s : ByteArray) (k : Nat) (hs : Sm s) (hk : s.size < k) : spec_among.f k c.toNat s = some (U.among c (L s)) := by
  have := among_loop c s hs s.size k 0 (by omega) rfl hk
  unfold spec_among.f
  simpa using this

theorem free_is (c : UInt8) (w k : Nat) (hk : 30 ≤ k) : spec_free.f k (c.toNat : Int) (w : Int) = some (U.free w c) := by
  have e0 : ∀ b : Bool, spec_free.j0 k (c.toNat : Int) (w : Int) b = some (b || U.among c (U.extra w)) := by
    intro b
    obtain ⟨k, rfl⟩ : ∃ m, k = m + 1 := ⟨k - 1, by omega⟩
    simp only [spec_free.j0]
    cases b
    · rw [if_neg (by decide)]
      match w with
      | 0 => rw [if_pos (show ((0 : Nat) : Int) = 0 from rfl), among_is _ _ _ (by decide) (by show 9 < k; omega)]; rfl
      | 1 => rw [if_neg (by decide), if_pos (show ((1 : Nat) : Int) = 1 from rfl), among_is _ _ _ (by decide) (by show 6 < k; omega)]; rfl
      | 2 => rw [if_neg (by decide), if_neg (by decide), if_pos (show ((2 : Nat) : Int) = 2 from rfl), among_is _ _ _ (by decide) (by show 17 < k; omega)]; rfl
      | w + 3 => rw [if_neg (by omega), if_neg (by omega), if_neg (by omega), among_is _ _ _ (by decide) (by show 14 < k; omega)]; rfl
    · rfl
  unfold spec_free.f U.free
  rw [letter_is]
  simp only [Option.bind_some]
  by_cases h1 : U.letter c = true
  · rw [if_pos h1, e0]; simp [h1]
  · rw [if_neg h1, digit_is]
    simp only [Option.bind_some]
    by_cases h2 : U.digit c = true
    · rw [if_pos h2, e0]; simp [h2]
    · rw [if_neg h2, among_is _ _ _ (by decide) (by show 4 < k; omega)]
      simp only [Option.bind_some]
      rw [e0]
      simp only [Bool.eq_false_iff.2 h1, Bool.eq_false_iff.2 h2, Bool.false_or]
      rfl

theorem hex_is (c : UInt8) (k : Nat) (hk : 1 ≤ k) : spec_hex.f k (c.toNat : Int) = some (U.hexv c) := by
  have hc := c.toNat_lt
  obtain ⟨k, rfl⟩ : ∃ m, k = m + 1 := ⟨k - 1, by omega⟩
  unfold spec_hex.f U.hexv
  rw [digit_is]
  simp only [Option.bind_some, spec_hex.j0]
  by_cases h : U.digit c = true
  · rw [if_pos h, if_pos h]
    simp only [U.digit, Bool.and_eq_true, decide_eq_true_eq] at h
    congr 1
    omega
  · rw [if_neg h, if_neg h]
    by_cases h1 : (c.toNat : Int) ≥ 97
    · rw [if_pos h1]
      by_cases h2 : (c.toNat : Int) ≤ 102
      · rw [if_pos (show decide ((c.toNat : Int) ≤ 102) = true by simpa using h2), if_pos (show 97 ≤ c.toNat ∧ c.toNat ≤ 102 by omega)]
        congr 1
        omega
      · rw [if_neg (show ¬ decide ((c.toNat : Int) ≤ 102) = true by simpa using h2), if_pos (show (c.toNat : Int) ≥ 65 by omega), if_neg (show ¬ (c.toNat : Int) ≤ 70 by omega), if_neg (show ¬ (97 ≤ c.toNat ∧ c.toNat ≤ 102) by omega), if_neg (show ¬ (65 ≤ c.toNat ∧ c.toNat ≤ 70) by omega)]
    · rw [if_neg h1, if_neg (show ¬ false = true by decide), if_neg (show ¬ (97 ≤ c.toNat ∧ c.toNat ≤ 102) by omega)]
      by_cases h2 : (c.toNat : Int) ≥ 65
      · rw [if_pos h2]
        by_cases h3 : (c.toNat : Int) ≤ 70
        · rw [if_pos h3, if_pos (show 65 ≤ c.toNat ∧ c.toNat ≤ 70 by omega)]
          congr 1
          omega
        · rw [if_neg h3, if_neg (show ¬ (65 ≤ c.toNat ∧ c.toNat ≤ 70) by omega)]
      · rw [if_neg h2, if_neg (show ¬ (65 ≤ c.toNat ∧ c.toNat ≤ 70) by omega)]

theorem cut_loop (c : UInt8) (s : ByteArray) (hs : Sm s) (d : Nat) : ∀ (k i : Nat), i ≤ s.size → s.size - i = d → d < k → U.idx c (L s) = i + U.idx c ((L s).drop i) →
    spec_cut.l0 k s c.toNat s.size i = some (S (U.cut c (L s)).1, S (U.cut c (L s)).2.1, (U.cut c (L s)).2.2) := by
  have hl := U.len_L s
  induction d with
  | zero =>
    intro k i hi hd hk hx
    obtain ⟨k, rfl⟩ : ∃ m, k = m + 1 := ⟨k - 1, by omega⟩
    rw [List.drop_eq_nil_of_le (by omega)] at hx
    simp only [U.idx] at hx
    simp only [spec_cut.l0]
    rw [if_neg (by omega)]
    simp only [U.cut, hx]
    rw [List.take_of_length_le (by omega), List.drop_eq_nil_of_le (by omega), U.S_L]
    simp
    exact ⟨rfl, by omega⟩
  | succ d ih =>
    intro k i hi hd hk hx
    obtain ⟨k, rfl⟩ : ∃ m, k = m + 1 := ⟨k - 1, by omega⟩
    rw [U.idx_drop c _ i (by omega)] at hx
    simp only [spec_cut.l0]
    rw [if_pos (by omega), if_pos (by omega), if_pos (by omega), bt_L s i (by omega)]
    by_cases h : ((L s)[i]'(by omega)) = c
    · rw [if_pos (byte_eq.2 h), wrap_of (by omega) (by omega), if_pos (by omega), if_pos (by omega), if_pos (by omega)]
      rw [if_pos h] at hx
      simp only [U.cut, hx]
      rw [U.ext_to, show ((i : Int) + 1).toNat = i + 1 from by omega, U.ext_from]
      simp
      omega
    · rw [if_neg (fun e => h (byte_eq.1 e)), wrap_of (by omega) (by omega)]
      rw [if_neg h] at hx
      have := ih k (i + 1) (by omega) (by omega) (by omega) (by omega)
      exact_mod_cast this
theorem cut_is (c : UInt8) (s : ByteArray) (k : Nat) (hs : Sm s) (hk : s.size < k) : spec_cut.f k s c.toNat = some (S (U.cut c (L s)).1, S (U.cut c (L s)).2.1, (U.cut c (L s)).2.2) := by
  have := cut_loop c s hs s.size k 0 (by omega) rfl hk (by simp)
  unfold spec_cut.f
  simpa using this

theorem last_loop (c : UInt8) (s : ByteArray) (hs : Sm s) (d : Nat) : ∀ (k : Nat), d ≤ s.size → d < k →
    spec_last.l0 k s c.toNat ((d : Int) - 1) = some (U.lastI c ((L s).take d)) := by
  have hl := U.len_L s
  induction d with
  | zero =>
    intro k hi hk
    obtain ⟨k, rfl⟩ : ∃ m, k = m + 1 := ⟨k - 1, by omega⟩
    simp only [spec_last.l0]
    rw [if_neg (by omega)]
    rfl
  | succ d ih =>
    intro k hi hk
    obtain ⟨k, rfl⟩ : ∃ m, k = m + 1 := ⟨k - 1, by omega⟩
    simp only [spec_last.l0]
    rw [show ((d + 1 : Nat) : Int) - 1 = (d : Int) from by omega, if_pos (by omega), if_pos (by omega), if_pos (by omega), bt_L s d (by omega), U.take_at _ _ (show d < (L s).length by omega), U.lastI_snoc]
    by_cases h : ((L s)[d]'(by omega)) = c
    · rw [if_pos (byte_eq.2 h), if_pos h, List.length_take, Nat.min_eq_left (by omega)]
    · rw [if_neg (fun e => h (byte_eq.1 e)), if_neg h, wrap_of (by omega) (by omega)]
      exact ih k (by omega) (by omega)
theorem last_is (c : UInt8) (s : ByteArray) (k : Nat) (hs : Sm s) (hk : s.size < k) : spec_last.f k s c.toNat = some (U.lastI c (L s)) := by
  have := last_loop c s hs s.size k (by omega) hk
  unfold spec_last.f
  rw [wrap_of (by omega) (by omega), this, List.take_of_length_le (by rw [U.len_L]; exact Nat.le_refl _)]

theorem port_loop (s : ByteArray) (hs : Sm s) (h0 : 0 < s.size) (d : Nat) : ∀ (k i : Nat), 1 ≤ i → i ≤ s.size → s.size - i = d → d < k →
    spec_port.l0 k s i = some (((L s).drop i).all U.digit && (bt s 0 == 58)) := by
  have hl := U.len_L s
  induction d with
  | zero =>
    intro k i hi h1 hd hk
    obtain ⟨k, rfl⟩ : ∃ m, k = m + 1 := ⟨k - 1, by omega⟩
    simp only [spec_port.l0]
    rw [if_neg (by omega), if_pos (by omega), List.drop_eq_nil_of_le (by omega)]
    rfl
  | succ d ih =>
    intro k i hi h1 hd hk
    obtain ⟨k, rfl⟩ : ∃ m, k = m + 1 := ⟨k - 1, by omega⟩
    simp only [spec_port.l0]
    rw [if_pos (by omega), if_pos (by omega), bt_L s i (by omega), digit_is, U.drop_at _ _ (show i < (L s).length by omega), List.all_cons]
    simp only [Option.bind_some]
    by_cases hdg : U.digit ((L s)[i]'(by omega)) = true
    · rw [if_pos hdg, hdg, wrap_of (by omega) (by omega), Bool.true_and]
      have := ih k (i + 1) (by omega) (by omega) (by omega) (by omega)
      exact_mod_cast this
    · rw [if_neg hdg, Bool.eq_false_iff.2 hdg]
      rfl
theorem port_is (s : ByteArray) (k : Nat) (hs : Sm s) (hk : s.size < k) : spec_port.f k s = some (U.port (L s)) := by
  have hl := U.len_L s
  unfold spec_port.f
  rw [U.toList_L]
  cases h : L s with
  | nil => rw [if_pos rfl]; rfl
  | cons c r =>
    rw [h] at hl
    simp only [List.length_cons] at hl
    have := port_loop s hs (by omega) (s.size - 1) k 1 (by omega) (by omega) rfl (by omega)
    rw [if_neg (by simp)]
    have e0 : bt s 0 = (c.toNat : Int) := by
      have := bt_L s 0 (by rw [h]; simp)
      simpa [h] using this
    rw [h, e0] at this
    refine Eq.trans (by exact_mod_cast this) ?_
    simp only [List.drop_succ_cons, List.drop_zero, U.port, Option.some.injEq]
    rw [Bool.and_comm]
    congr 1
    rw [Bool.eq_iff_iff]
    simp
    omega
end Go.Proofs.YtphkohpphdcjhaaGreatDoor
namespace Go.Proofs.YtphkohpphdcjhaaGreatDoor
open Go.RowKit PFnJoinText Go.Proofs.YtphkohpphdcjhaaGreatDoorW.PrintWords
open U (L S)

/-- Bytes as numbers. -/
def N (l : U.B) : List Int := l.map fun c => (c.toNat : Int)
theorem N_len (l : U.B) : (N l).length = l.length := by simp [N]
theorem N_snoc (l : U.B) (c : UInt8) : N l ++ [(c.toNat : Int)] = N (l ++ [c]) := by simp [N]
theorem N_app (l m : U.B) : N l ++ N m = N (l ++ m) := by simp [N]
theorem str_N (l : U.B) : strOfNums (N l) = S l := by
  refine U.L_inj ?_
  rw [U.L_S]
  unfold U.L N
  rw [strOfNums_data, List.map_map]
  exact (List.map_congr_left (fun c _ => by simp)).trans (List.map_id _)

theorem hexv_range (c : UInt8) : -1 ≤ U.hexv c ∧ U.hexv c ≤ 15 := by
  unfold U.hexv U.digit
  by_cases h : (decide (48 ≤ c.toNat) && decide (c.toNat ≤ 57)) = true
  · rw [if_pos h]
    simp at h
    omega
  · rw [if_neg h]
    by_cases h1 : 97 ≤ c.toNat ∧ c.toNat ≤ 102
    · rw [if_pos h1]
      omega
    · rw [if_neg h1]
      by_cases h2 : 65 ≤ c.toNat ∧ c.toNat ≤ 70
      · rw [if_pos h2]
        omega
      · rw [if_neg h2]
        omega
theorem ofNat_int {v : Int} (h0 : 0 ≤ v) (h1 : v < 256) : ((UInt8.ofNat v.toNat).toNat : Int) = v := by
  simp
  omega

/-- What unescaping comes to, as the reference hands it back. -/
def unR (acc : U.B) : Option U.B → ByteArray × Bool
  | some r => (S (acc ++ r), true)
  | none => (⟨#[]⟩, false)
theorem unR_cons (acc : U.B) (c : UInt8) (o : Option U.B) : unR acc (o.map (c :: ·)) = unR (acc ++ [c]) o := by
  cases o <;> simp [unR]

theorem unesc_short (w : Nat) (c : UInt8) (r : U.B) (h : c.toNat = 37) (hr : r.length ≤ 1) : U.unesc w (c :: r) = none := by
  unfold U.unesc
  rw [if_pos h]
  match r, hr with
  | [], _ => rfl
  | [_], _ => rfl

theorem unesc_loop (w : Nat) (s : ByteArray) (hs : Sm s) (d : Nat) : ∀ (k i : Nat) (acc : U.B), i ≤ s.size → s.size - i = d → 2 * d + 50 ≤ k → acc.length ≤ i →
    spec_Unescape.l0 k s w (N acc) i = some (unR acc (U.unesc w ((L s).drop i))) := by
  have hl := U.len_L s
  induction d using Nat.strongRecOn with
  | _ d ih =>
    intro k i acc hi hd hk ha
    obtain ⟨k, rfl⟩ : ∃ m, k = m + 1 := ⟨k - 1, by omega⟩
    simp only [spec_Unescape.l0]
    by_cases hlt : i < s.size
    · have hA : (N acc).length < 140737488355328 := by rw [N_len]; omega
      have stp : ∀ c : UInt8, spec_Unescape.l0 k s w (N acc ++ [(c.toNat : Int)]) ((i : Int) + 1) = some (unR (acc ++ [c]) (U.unesc w ((L s).drop (i + 1)))) := by
        intro c
        rw [N_snoc]
        have := ih (d - 1) (by omega) k (i + 1) (acc ++ [c]) (by omega) (by omega) (by omega) (by simp; omega)
        exact_mod_cast this
      rw [if_pos (by omega), if_pos (by omega), bt_L s i (by omega), U.drop_at _ _ (show i < (L s).length by omega)]
      obtain ⟨c, hc⟩ : ∃ c, ((L s)[i]'(by omega)) = c := ⟨_, rfl⟩
      rw [hc]
      by_cases h37 : c.toNat = 37
      · rw [if_pos (show (c.toNat : Int) = 37 by omega), wrap_of (by omega) (by omega)]
        by_cases h2 : i + 2 < s.size
        · unfold U.unesc
          rw [if_pos h37]
          rw [if_neg (by omega), wrap_of (by omega) (by omega), if_pos (by omega), if_pos (by omega)]
          have e1 : bt s ((i : Int) + 1) = ((((L s)[i + 1]'(by omega)).toNat : Nat) : Int) := by
            have := bt_L s (i + 1) (by omega)
            exact_mod_cast this
          have e2 : bt s ((i : Int) + 2) = ((((L s)[i + 2]'(by omega)).toNat : Nat) : Int) := by
            have := bt_L s (i + 2) (by omega)
            exact_mod_cast this
          rw [e1, e2, hex_is _ _ (by omega), hex_is _ _ (by omega), U.drop_at _ _ (show i + 1 < (L s).length by omega), U.drop_at _ _ (show i + 1 + 1 < (L s).length by omega)]
          obtain ⟨a, hA1⟩ : ∃ a, ((L s)[i + 1]'(by omega)) = a := ⟨_, rfl⟩
          obtain ⟨b, hB1⟩ : ∃ b, ((L s)[i + 2]'(by omega)) = b := ⟨_, rfl⟩
          rw [hA1] at e1 ⊢
          rw [hB1] at e2
          simp only [show i + 1 + 1 = i + 2 from rfl, hB1, Option.bind_some]
          have ra := hexv_range a
          have rb := hexv_range b
          obtain ⟨k, rfl⟩ : ∃ m, k = m + 1 := ⟨k - 1, by omega⟩
          by_cases ha0 : U.hexv a < 0
          · rw [if_pos ha0, if_pos (Or.inl ha0)]
            simp only [spec_Unescape.j1, if_true, unR]
          · rw [if_neg ha0, if_pos (by omega), if_pos (by omega)]
            by_cases hb0 : U.hexv b < 0
            · rw [if_pos (Or.inr hb0)]
              simp only [spec_Unescape.j1, hb0, decide_true, if_true, unR]
            · rw [if_neg (by omega)]
              simp only [spec_Unescape.j1, hb0, decide_false]
              have hv0 : 0 ≤ U.hexv a * 16 + U.hexv b := by omega
              have hv1 : U.hexv a * 16 + U.hexv b < 256 := by omega
              have hstep : spec_Unescape.l0 k s w (N acc ++ [(U.hexv a * 16 + U.hexv b) % 256]) (wrap64 (wrap64 ((i : Int) + 2) + 1)) = some (unR acc ((U.unesc w ((L s).drop (i + 2 + 1))).map (UInt8.ofNat (U.hexv a * 16 + U.hexv b).toNat :: ·))) := by
                rw [unR_cons, wrap_of (x := (i : Int) + 2) (by omega) (by omega), wrap_of (by omega) (by omega), Int.emod_eq_of_lt hv0 hv1]
                have := ih (d - 3) (by omega) k (i + 2 + 1) (acc ++ [UInt8.ofNat (U.hexv a * 16 + U.hexv b).toNat]) (by omega) (by omega) (by omega) (by simp; omega)
                rw [← N_snoc, ofNat_int hv0 hv1] at this
                exact_mod_cast this
              rw [if_neg (by decide), wrap_of (x := (i : Int) + 1) (by omega) (by omega), if_pos (by omega), if_pos (by omega), e1, hex_is _ _ (by omega), Option.bind_some]
              rw [show wrap64 ((i : Int) + 2) = (i : Int) + 2 from wrap_of (by omega) (by omega)] at hstep ⊢
              rw [if_pos (by omega), if_pos (by omega), e2, hex_is _ _ (by omega), Option.bind_some]
              rw [show wrap64 (U.hexv a * 16) = U.hexv a * 16 from wrap_of (by omega) (by omega), show wrap64 (U.hexv a * 16 + U.hexv b) = U.hexv a * 16 + U.hexv b from wrap_of (by omega) (by omega), if_pos hA]
              obtain ⟨v, hv⟩ : ∃ v, U.hexv a * 16 + U.hexv b = v := ⟨_, rfl⟩
              rw [hv] at hstep hv0 hv1 ⊢
              by_cases hw : w = 2
              · subst hw
                rw [if_pos (show ((2 : Nat) : Int) = 2 from rfl)]
                by_cases hv2 : v < 128
                · rw [if_pos hv2]
                  by_cases hv3 : v = 37
                  · rw [if_pos hv3, if_pos (by simp [U.escapes, hv3])]
                    exact hstep
                  · rw [if_neg hv3, if_neg (by simp [U.escapes, hv2, hv3])]
                    rfl
                · rw [if_neg hv2, if_pos (by simp [U.escapes, hv2])]
                  exact hstep
              · rw [if_neg (by omega), if_pos (by simp [U.escapes, hw])]
                exact hstep
        · rw [if_pos (by omega)]
          rw [unesc_short w c _ h37 (by simp; omega)]
          obtain ⟨k, rfl⟩ : ∃ m, k = m + 1 := ⟨k - 1, by omega⟩
          simp only [spec_Unescape.j1, if_true, unR]
      · rw [if_neg (show ¬ (c.toNat : Int) = 37 by omega)]
        unfold U.unesc
        rw [if_neg h37, wrap_of (by omega) (by omega), if_pos hA]
        by_cases hw : w = 2
        · subst hw
          rw [if_pos (show ((2 : Nat) : Int) = 2 from rfl)]
          by_cases h128 : c.toNat < 128
          · rw [if_pos (by omega), show (2 : Int) = ((2 : Nat) : Int) from rfl, free_is _ _ _ (by omega)]
            simp only [Option.bind_some]
            by_cases hf : U.free 2 c = true
            · rw [if_pos hf, if_pos (by simp [U.stands, hf]), unR_cons]
              exact stp c
            · rw [if_neg hf, if_neg (by simp [U.stands, hf, h128])]
              rfl
          · rw [if_neg (by omega), if_pos (by simp [U.stands, h128]), unR_cons]
            exact stp c
        · rw [if_neg (by omega), if_pos (by simp [U.stands, hw]), unR_cons]
          exact stp c
    · rw [if_neg (by omega), List.drop_eq_nil_of_le (by omega), str_N]
      simp [U.unesc, unR]
theorem unesc_is (w : Nat) (s : ByteArray) (k : Nat) (hs : Sm s) (hk : 2 * s.size + 50 ≤ k) : spec_Unescape.f k s w = some (unR [] (U.unesc w (L s))) := by
  have := unesc_loop w s hs s.size k 0 [] (by omega) rfl hk (by simp)
  unfold spec_Unescape.f
  simpa [N] using this

theorem and15 (c : UInt8) : Go.bits .and .u8 (c.toNat : Int) 15 = ((c.toNat % 16 : Nat) : Int) := by
  have h : ∀ n, n < 256 → Go.bits .and .u8 ((n : Nat) : Int) 15 = ((n % 16 : Nat) : Int) := by decide +kernel
  exact h _ c.toNat_lt
theorem figs_at : ∀ n, n < 16 → bt (⟨#[48, 49, 50, 51, 52, 53, 54, 55, 56, 57, 65, 66, 67, 68, 69, 70]⟩ : ByteArray) ((n : Nat) : Int) = (((U.figs.getD n 0).toNat : Nat) : Int) := by decide +kernel

theorem esc_loop (w : Nat) (s : ByteArray) (hs : Sm s) (d : Nat) : ∀ (k i : Nat) (acc : U.B), i ≤ s.size → s.size - i = d → d + 50 ≤ k → acc.length ≤ 3 * i →
    spec_Escape.l0 k s w (N acc) s.size i = some (S (acc ++ U.esc w ((L s).drop i))) := by
  have hl := U.len_L s
  induction d with
  | zero =>
    intro k i acc hi hd hk ha
    obtain ⟨k, rfl⟩ : ∃ m, k = m + 1 := ⟨k - 1, by omega⟩
    simp only [spec_Escape.l0]
    rw [if_neg (by omega), List.drop_eq_nil_of_le (by omega), str_N]
    simp [U.esc]
  | succ d ih =>
    intro k i acc hi hd hk ha
    obtain ⟨k, rfl⟩ : ∃ m, k = m + 1 := ⟨k - 1, by omega⟩
    simp only [spec_Escape.l0]
    rw [if_pos (by omega), if_pos (by omega), if_pos (by omega), bt_L s i (by omega), U.drop_at _ _ (show i < (L s).length by omega), free_is _ _ _ (by omega), wrap_of (by omega) (by omega)]
    obtain ⟨c, hc⟩ : ∃ c, ((L s)[i]'(by omega)) = c := ⟨_, rfl⟩
    rw [hc]
    simp only [Option.bind_some]
    have hcl := c.toNat_lt
    by_cases hf : U.free w c = true
    · rw [if_pos hf, if_pos (by rw [N_len]; omega), N_snoc]
      have := ih k (i + 1) (acc ++ [c]) (by omega) (by omega) (by omega) (by simp; omega)
      have e : acc ++ U.esc w (c :: (L s).drop (i + 1)) = acc ++ [c] ++ U.esc w ((L s).drop (i + 1)) := by simp [U.esc, U.esc1, hf]
      rw [e]
      exact_mod_cast this
    · have e16 : (c.toNat : Int) / 16 = ((c.toNat / 16 : Nat) : Int) := by omega
      rw [if_neg hf, and15, e16, if_pos (by omega), if_pos (by omega), if_pos (by omega), if_pos (by omega), figs_at _ (by omega), figs_at _ (by omega), if_pos (by rw [N_len]; simp; omega)]
      have e3 : N acc ++ [37, (((U.figs.getD (c.toNat / 16) 0).toNat : Nat) : Int), (((U.figs.getD (c.toNat % 16) 0).toNat : Nat) : Int)] = N (acc ++ [37, U.figs.getD (c.toNat / 16) 0, U.figs.getD (c.toNat % 16) 0]) := by simp [N]
      rw [e3]
      have := ih k (i + 1) (acc ++ [37, U.figs.getD (c.toNat / 16) 0, U.figs.getD (c.toNat % 16) 0]) (by omega) (by omega) (by omega) (by simp; omega)
      have e : acc ++ U.esc w (c :: (L s).drop (i + 1)) = acc ++ [37, U.figs.getD (c.toNat / 16) 0, U.figs.getD (c.toNat % 16) 0] ++ U.esc w ((L s).drop (i + 1)) := by simp [U.esc, U.esc1, hf]
      rw [e]
      exact_mod_cast this
theorem esc_is (w : Nat) (s : ByteArray) (k : Nat) (hs : Sm s) (hk : s.size + 50 ≤ k) : spec_Escape.f k s w = some (S (U.esc w (L s))) := by
  have := esc_loop w s hs s.size k 0 [] (by omega) rfl hk (by simp)
  unfold spec_Escape.f
  simpa [N] using this

theorem low1_is (c : UInt8) (h : 65 ≤ c.toNat ∧ c.toNat ≤ 90) : ((c.toNat : Int) + 32) % 256 = ((U.low1 c).toNat : Int) := by
  unfold U.low1
  rw [if_pos h]
  simp
theorem lower_loop (s : ByteArray) (hs : Sm s) (d : Nat) : ∀ (k i : Nat) (acc : U.B), i ≤ s.size → s.size - i = d → d < k → acc.length ≤ i →
    spec_lower.l0 k s (N acc) s.size i = some (S (acc ++ U.lower ((L s).drop i))) := by
  have hl := U.len_L s
  induction d with
  | zero =>
    intro k i acc hi hd hk ha
    obtain ⟨k, rfl⟩ : ∃ m, k = m + 1 := ⟨k - 1, by omega⟩
    simp only [spec_lower.l0]
    rw [if_neg (by omega), List.drop_eq_nil_of_le (by omega), str_N]
    simp [U.lower]
  | succ d ih =>
    intro k i acc hi hd hk ha
    obtain ⟨k, rfl⟩ : ∃ m, k = m + 1 := ⟨k - 1, by omega⟩
    simp only [spec_lower.l0]
    rw [if_pos (by omega), if_pos (by omega), if_pos (by omega), bt_L s i (by omega), U.drop_at _ _ (show i < (L s).length by omega), wrap_of (by omega) (by omega)]
    obtain ⟨c, hc⟩ : ∃ c, ((L s)[i]'(by omega)) = c := ⟨_, rfl⟩
    rw [hc]
    have hA : (N acc).length < 140737488355328 := by rw [N_len]; omega
    have this : spec_lower.l0 k s (N (acc ++ [U.low1 c])) s.size ((i : Int) + 1) = some (S (acc ++ [U.low1 c] ++ U.lower ((L s).drop (i + 1)))) := by
      have := ih k (i + 1) (acc ++ [U.low1 c]) (by omega) (by omega) (by omega) (by simp; omega)
      exact_mod_cast this
    have e : acc ++ U.lower (c :: (L s).drop (i + 1)) = acc ++ [U.low1 c] ++ U.lower ((L s).drop (i + 1)) := by simp [U.lower]
    rw [e, ← this]
    by_cases h1 : 65 ≤ c.toNat
    · rw [if_pos (by omega)]
      by_cases h2 : c.toNat ≤ 90
      · rw [if_pos (by omega), if_pos hA, low1_is c ⟨h1, h2⟩, N_snoc]
      · rw [if_neg (by omega), if_pos hA, N_snoc, show U.low1 c = c from if_neg (by omega)]
    · rw [if_neg (by omega), if_pos hA, N_snoc, show U.low1 c = c from if_neg (by omega)]
theorem lower_is (s : ByteArray) (k : Nat) (hs : Sm s) (hk : s.size < k) : spec_lower.f k s = some (S (U.lower (L s))) := by
  have := lower_loop s hs s.size k 0 [] (by omega) rfl hk (by simp)
  unfold spec_lower.f
  simpa [N] using this

theorem sch_loop (s : ByteArray) (hs : Sm s) (d : Nat) : ∀ (k i : Nat), i ≤ s.size → s.size - i = d → 2 * d + 20 ≤ k →
    spec_scheme.l0 k s s.size i = some (S (U.sch (L s) ((L s).drop i) i).1, S (U.sch (L s) ((L s).drop i) i).2.1, (U.sch (L s) ((L s).drop i) i).2.2) := by
  have hl := U.len_L s
  induction d with
  | zero =>
    intro k i hi hd hk
    obtain ⟨k, rfl⟩ : ∃ m, k = m + 1 := ⟨k - 1, by omega⟩
    simp only [spec_scheme.l0]
    rw [if_neg (by omega), List.drop_eq_nil_of_le (by omega)]
    simp only [U.sch, U.S_L]
    rfl
  | succ d ih =>
    intro k i hi hd hk
    obtain ⟨k, rfl⟩ : ∃ m, k = m + 1 := ⟨k - 1, by omega⟩
    simp only [spec_scheme.l0]
    rw [if_pos (by omega), if_pos (by omega), if_pos (by omega), bt_L s i (by omega), U.drop_at _ _ (show i < (L s).length by omega), letter_is]
    obtain ⟨c, hc⟩ : ∃ c, ((L s)[i]'(by omega)) = c := ⟨_, rfl⟩
    rw [hc]
    simp only [Option.bind_some]
    rw [wrap_of (by omega) (by omega)]
    by_cases h1 : U.letter c = true
    · rw [if_pos h1]
      have := ih k (i + 1) (by omega) (by omega) (by omega)
      simp only [U.sch, h1, if_true]
      exact_mod_cast this
    · rw [if_neg h1, digit_is, among_is _ _ _ (by decide) (by show 3 < k; omega)]
      have e : ∀ b : Bool, spec_scheme.j1 k s i c.toNat s.size i b = if b then (if (i : Nat) = 0 then some (⟨#[]⟩, s, true) else spec_scheme.l0 (k - 1) s s.size ((i : Int) + 1)) else if c.toNat = 58 then some (S ((L s).take i), S ((L s).drop (i + 1)), decide (0 < i)) else some (⟨#[]⟩, s, true) := by
        intro b
        obtain ⟨k, rfl⟩ : ∃ m, k = m + 1 := ⟨k - 1, by omega⟩
        simp only [spec_scheme.j1]
        rw [wrap_of (by omega) (by omega), Nat.add_sub_cancel]
        cases b
        · rw [if_neg (show ¬ false = true by decide), if_neg (show ¬ false = true by decide)]
          by_cases h58 : c.toNat = 58
          · rw [if_pos (show (c.toNat : Int) = 58 by omega), if_pos h58, if_pos (by omega), if_pos (by omega), if_pos (by omega), if_pos (by omega), Int.toNat_natCast, U.ext_to, show ((i : Int) + 1).toNat = i + 1 from by omega, U.ext_from]
            simp
          · rw [if_neg (show ¬ (c.toNat : Int) = 58 by omega), if_neg h58]
        · rw [if_pos (show true = true from rfl), if_pos (show true = true from rfl)]
          by_cases h0 : i = 0
          · rw [if_pos (show (i : Int) = 0 by omega), if_pos h0]
          · rw [if_neg (show ¬ (i : Int) = 0 by omega), if_neg h0]
      simp only [Option.bind_some]
      have key : (if U.digit c = true then spec_scheme.j1 k s i c.toNat s.size i true else spec_scheme.j1 k s i c.toNat s.size i (U.among c (L ⟨#[43, 45, 46]⟩))) = spec_scheme.j1 k s i c.toNat s.size i (U.digit c || U.among c [43, 45, 46]) := by
        by_cases h2 : U.digit c = true
        · rw [if_pos h2, h2, Bool.true_or]
        · rw [if_neg h2, Bool.eq_false_iff.2 h2, Bool.false_or]
          rfl
      rw [key, e]
      simp only [U.sch, h1]
      by_cases h2 : (U.digit c || U.among c [43, 45, 46]) = true
      · rw [if_pos h2, if_neg (show ¬ false = true by decide), if_pos h2]
        by_cases h0 : i = 0
        · rw [if_pos h0, if_pos h0]
          simp only [U.S_L]
          rfl
        · rw [if_neg h0, if_neg h0]
          have := ih (k - 1) (i + 1) (by omega) (by omega) (by omega)
          exact_mod_cast this
      · rw [if_neg h2, if_neg (show ¬ false = true by decide), if_neg h2]
        by_cases h58 : c.toNat = 58
        · rw [if_pos h58, if_pos h58]
        · rw [if_neg h58, if_neg h58]
          simp only [U.S_L]
          rfl
theorem scheme_is (s : ByteArray) (k : Nat) (hs : Sm s) (hk : 2 * s.size + 20 ≤ k) : spec_scheme.f k s = some (S (U.scheme (L s)).1, S (U.scheme (L s)).2.1, (U.scheme (L s)).2.2) := by
  have := sch_loop s hs s.size k 0 (by omega) rfl hk
  unfold spec_scheme.f
  simpa [U.scheme] using this
end Go.Proofs.YtphkohpphdcjhaaGreatDoor
namespace Go.Proofs.YtphkohpphdcjhaaGreatDoor
open Go.RowKit PFnJoinText Go.Proofs.YtphkohpphdcjhaaGreatDoorW.PrintWords
open U (L S)

theorem E_S : E = S [] := rfl
theorem of_L {s : ByteArray} {l : U.B} (h : L s = l) : s = S l := by rw [← h, U.S_L]

theorem c_cut (s a b : ByteArray) (c : UInt8) (n : Int) (f : Bool) (w : World) (hs : Sm s) (hn : n = (c.toNat : Int)) (H : Hid (U.cut c (L s) = (L a, L b, f))) :
    Calls Tryz.prog 35 #[.string s, .int .u8 n] w fun e w' => e = .returned (.tuple #[.string a, .string b, .bool f]) ∧ Drawn0 w w' := by
  subst hn
  refine spec_cut.calls (s.size + 1) s c.toNat a b f w ?_
  rw [cut_is c s _ hs (by omega), H.out]
  simp
theorem c_among (s : ByteArray) (c : UInt8) (n : Int) (f : Bool) (w : World) (hs : Sm s) (hn : n = (c.toNat : Int)) (H : Hid (U.among c (L s) = f)) :
    Calls Tryz.prog 49 #[.int .u8 n, .string s] w fun e w' => e = .returned (.bool f) ∧ Drawn0 w w' := by
  subst hn
  refine spec_among.calls (s.size + 1) c.toNat s f w ?_
  rw [among_is c s _ hs (by omega), H.out]
theorem c_letter (c : UInt8) (n : Int) (f : Bool) (w : World) (hn : n = (c.toNat : Int)) (H : Hid (U.letter c = f)) :
    Calls Tryz.prog 87 #[.int .u8 n] w fun e w' => e = .returned (.bool f) ∧ Drawn0 w w' := by
  subst hn
  exact spec_letter.calls _ f w (by rw [letter_is, H.out])
theorem c_digit (c : UInt8) (n : Int) (f : Bool) (w : World) (hn : n = (c.toNat : Int)) (H : Hid (U.digit c = f)) :
    Calls Tryz.prog 88 #[.int .u8 n] w fun e w' => e = .returned (.bool f) ∧ Drawn0 w w' := by
  subst hn
  exact spec_digit.calls _ f w (by rw [digit_is, H.out])
theorem c_free (c : UInt8) (w : Nat) (n m : Int) (f : Bool) (W : World) (hn : n = (c.toNat : Int)) (hm : m = (w : Int)) (H : Hid (U.free w c = f)) :
    Calls Tryz.prog 63 #[.int .u8 n, .int .i64 m] W fun e w' => e = .returned (.bool f) ∧ Drawn0 W w' := by
  subst hn hm
  exact spec_free.calls 30 _ _ f W (by rw [free_is _ _ _ (Nat.le_refl _), H.out])
theorem c_Unescape (s r : ByteArray) (w : Nat) (m : Int) (W : World) (hs : Sm s) (hm : m = (w : Int)) (H : Hid (U.unesc w (L s) = some (L r))) :
    Calls Tryz.prog 37 #[.string s, .int .i64 m] W fun e w' => e = .returned (.tuple #[.string r, .bool true]) ∧ Below W.heap.size W w' := by
  subst hm
  refine spec_Unescape.calls (2 * s.size + 50) s _ r true W ?_
  rw [unesc_is w s _ hs (Nat.le_refl _), H.out]
  simp [unR]
theorem c_Unescape_no (s : ByteArray) (w : Nat) (m : Int) (W : World) (hs : Sm s) (hm : m = (w : Int)) (H : Hid (U.unesc w (L s) = none)) :
    Calls Tryz.prog 37 #[.string s, .int .i64 m] W fun e w' => e = .returned (.tuple #[.string E, .bool false]) ∧ Below W.heap.size W w' := by
  subst hm
  refine spec_Unescape.calls (2 * s.size + 50) s _ E false W ?_
  rw [unesc_is w s _ hs (Nat.le_refl _), H.out]
  rfl
theorem c_Escape (s r : ByteArray) (w : Nat) (m : Int) (W : World) (hs : Sm s) (hm : m = (w : Int)) (H : Hid (U.esc w (L s) = L r)) :
    Calls Tryz.prog 38 #[.string s, .int .i64 m] W fun e w' => e = .returned (.string r) ∧ Below W.heap.size W w' := by
  subst hm
  refine spec_Escape.calls (s.size + 50) s _ r W ?_
  rw [esc_is w s _ hs (Nat.le_refl _), H.out, U.S_L]
theorem c_scheme (s a b : ByteArray) (f : Bool) (w : World) (hs : Sm s) (H : Hid (U.scheme (L s) = (L a, L b, f))) :
    Calls Tryz.prog 60 #[.string s] w fun e w' => e = .returned (.tuple #[.string a, .string b, .bool f]) ∧ Drawn0 w w' := by
  refine spec_scheme.calls (2 * s.size + 20) s a b f w ?_
  rw [scheme_is s _ hs (Nat.le_refl _), H.out]
  simp
theorem c_lower (s r : ByteArray) (w : World) (hs : Sm s) (H : Hid (U.lower (L s) = L r)) :
    Calls Tryz.prog 61 #[.string s] w fun e w' => e = .returned (.string r) ∧ Below w.heap.size w w' := by
  refine spec_lower.calls (s.size + 1) s r w ?_
  rw [lower_is s _ hs (by omega), H.out, U.S_L]
theorem c_last (s : ByteArray) (c : UInt8) (n r : Int) (w : World) (hs : Sm s) (hn : n = (c.toNat : Int)) (H : Hid (U.lastI c (L s) = r)) :
    Calls Tryz.prog 85 #[.string s, .int .u8 n] w fun e w' => e = .returned (.int .i64 r) ∧ Drawn0 w w' := by
  subst hn
  refine spec_last.calls (s.size + 1) s c.toNat r w ?_
  rw [last_is c s _ hs (by omega), H.out]
theorem c_port (s : ByteArray) (f : Bool) (w : World) (hs : Sm s) (H : Hid (U.port (L s) = f)) :
    Calls Tryz.prog 89 #[.string s] w fun e w' => e = .returned (.bool f) ∧ Drawn0 w w' := by
  refine spec_port.calls (s.size + 1) s f w ?_
  rw [port_is s _ hs (by omega), H.out]

/-- A reference of the thin package in a block. -/
abbrev V.cells (v : V) : Array Value :=
  #[.string v.scheme, .string v.opq, .string v.user, .string v.pass, .bool v.hasUser, .bool v.hasPass, .string v.host, .string v.path, .string v.rawPath, .bool v.omitHost, .bool v.forceQuery, .string v.rawQuery, .string v.fragment, .string v.rawFragment]
abbrev V.val (v : V) : Value := .agg v.cells
def IsV (w : World) (g : Nat) (v : V) : Prop := w.heap[g]? = some (.cells v.cells 23 (0, 0))

/-- Of what was there, only block g may have turned. -/
structure Only (g : Nat) (w w' : World) : Prop where
  os : w'.os = w.os
  tape : w'.tape = w.tape
  output : w'.output = w.output
  size : w.heap.size ≤ w'.heap.size
  block : ∀ k, k < w.heap.size → k ≠ g → w'.heap[k]? = w.heap[k]?
theorem Only.refl (g : Nat) (w : World) : Only g w w := ⟨rfl, rfl, rfl, Nat.le_refl _, fun _ _ _ => rfl⟩
theorem Only.trans {g : Nat} {a b c : World} (h : Only g a b) (k : Only g b c) : Only g a c :=
  ⟨k.os.trans h.os, k.tape.trans h.tape, k.output.trans h.output, Nat.le_trans h.size k.size, fun i hi hg => (k.block i (Nat.lt_of_lt_of_le hi h.size) hg).trans (h.block i hi hg)⟩
theorem Only.of_below {g : Nat} {w w' : World} (h : Below w.heap.size w w') : Only g w w' := ⟨h.os, h.tape, h.output, h.size, fun k hk _ => h.block k hk⟩
theorem Only.drewN {g : Nat} {w w' : World} (h : Only g w w') (n : Nat) : Only g w (w'.drewN n) := ⟨h.os, h.tape, h.output, h.size, h.block⟩
theorem Only.setCell {g : Nat} {w w' : World} (h : Only g w w') (o : Nat) (u : Value) : Only g w (w'.setCell ⟨g, o, none⟩ u) :=
  h.trans ⟨rfl, rfl, rfl, by simp [World.setCell], fun k _ hk => Below.heap_setCell _ _ _ _ hk⟩
theorem Only.then_ {g : Nat} {w a b : World} (h : Only g w a) (k : Below a.heap.size a b) : Only g w b := h.trans (Only.of_below k)
/-- A frame from below goes on over it. -/
theorem Only.below {g B : Nat} {a w w' : World} (h : Below B a w) (k : Only g w w') (hB : B ≤ w.heap.size) (hg : B ≤ g) : Below B a w' :=
  h.trans ⟨k.os, k.tape, k.output, k.size, fun i hi => k.block i (by omega) (by omega)⟩
theorem below_n {B : Nat} {a w : World} (h : Below B a w) (n : Nat) : Below B a (w.drewN n) := h.trans ⟨rfl, rfl, rfl, Nat.le_refl _, fun _ _ => rfl⟩
theorem below_d {w w' : World} (h : Drawn0 w w') : Below w.heap.size w w' := h.below

/-- The path that is given to a reference. -/
theorem c_setPath (w : World) (g : Nat) (v : V) (s : ByteArray) (hs : Sm s) (hg : IsV w g v) :
    Calls Tryz.prog 52 #[.pointer (some ⟨g, 0, none⟩), .string s] w fun e w' => e = .returned (.bool (U.setPath v s).2) ∧ IsV w' g (U.setPath v s).1 ∧ Only g w w' := by
  obtain ⟨p, hp⟩ : ∃ p, (U.unesc 0 (L s)).getD [] = p := ⟨_, rfl⟩
  have hpl : p.length ≤ s.size := by
    rw [← hp, ← U.len_L]
    cases h : U.unesc 0 (L s) with
    | none => simp
    | some r => exact U.unesc_len 0 _ _ _ (Nat.le_refl _) h
  have e1 : spec_Unescape.f (2 * s.size + 50) s 0 = some (S p, (U.unesc 0 (L s)).isSome) := by
    have := unesc_is 0 s (2 * s.size + 50) hs (Nat.le_refl _)
    rw [show ((0 : Nat) : Int) = 0 from rfl] at this
    rw [this, ← hp]
    cases U.unesc 0 (L s) <;> rfl
  have e2 : spec_Escape.f (2 * s.size + 50) (S p) 0 = some (S (U.esc 0 p)) := by
    have := esc_is 0 (S p) (2 * s.size + 50) (by unfold Sm at *; rw [U.size_S]; omega) (by rw [U.size_S]; omega)
    rwa [show ((0 : Nat) : Int) = 0 from rfl] at this
  have hf : spec_setPath.f (2 * s.size + 50) v.scheme v.opq v.user v.pass v.hasUser v.hasPass v.host v.path v.rawPath v.omitHost v.forceQuery v.rawQuery v.fragment v.rawFragment s =
      some ((U.setPath v s).2, v.scheme, v.opq, v.user, v.pass, v.hasUser, v.hasPass, v.host, (U.setPath v s).1.path, (U.setPath v s).1.rawPath, v.omitHost, v.forceQuery, v.rawQuery, v.fragment, v.rawFragment) := by
    unfold spec_setPath.f
    rw [e1, Option.bind_some, e2, Option.bind_some, U.toList_L, U.toList_L]
    by_cases h : U.esc 0 p = L s
    · rw [if_pos (show L (S (U.esc 0 p)) = L s from h)]
      simp only [U.setPath, hp, if_pos h]
    · rw [if_neg (show ¬ L (S (U.esc 0 p)) = L s from h)]
      simp only [U.setPath, hp, if_neg h]
  refine (spec_setPath.calls (2 * s.size + 50) g _ _ _ _ _ _ _ _ _ _ _ _ _ _ s _ _ _ _ _ _ _ _ _ _ _ _ _ _ _ { w with heap := #[] } w ⟨hg, Nat.zero_le _⟩ ⟨rfl, rfl, rfl, Nat.zero_le _, fun k hk => absurd hk (Nat.not_lt_zero _)⟩ hf).mono ?_
  rintro e w' ⟨he, hI, hb, hk⟩
  exact ⟨he, hI.1, hb.os, hb.tape, hb.output, hk.1, fun k h1 h2 => hk.2 k h1 h2 (by simp)⟩
end Go.Proofs.YtphkohpphdcjhaaGreatDoor
