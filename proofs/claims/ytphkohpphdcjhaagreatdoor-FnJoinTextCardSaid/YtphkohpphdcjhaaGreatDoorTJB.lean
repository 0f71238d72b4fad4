/- What the join of texts takes from its neighbours: a reference that is read is short; whether a list is; a new reference in its block. -/
import Derived.Test.YtphkohpphdcjhaaGreatDoorTSpecN
set_option linter.unusedVariables false
set_option linter.unusedSimpArgs false
namespace Go.Proofs.YtphkohpphdcjhaaGreatDoor
open Go.RowKit Go.Proofs.YtphkohpphdcjhaaGreatDoorW.PrintWords Go.Proofs.YtphkohpphdcjhaaGreatDoorW.PrintLast
open U (L S)

/-- A reference that is read is short. -/
theorem parse_short {s : ByteArray} {q : Bool} {v : V} (hs : s.size ≤ 300) (h : U.parse (L s) q = some (some v)) : v.Sm 300 := by
  have h1 := U.parse_sum h
  have h2 := U.parse_raw h
  unfold U.sum at h1
  simp only [U.len_L] at h1 h2
  exact ⟨by omega, by omega, by omega, by omega, by omega, by omega, by omega, by omega, by omega, by omega⟩
theorem setPath_sm {u : V} {p : ByteArray} (h : u.Sm 300) (hp : p.size ≤ 4000) : (U.setPath u p).1.Sm 4000 := by
  have h1 : ((U.unesc 0 (L p)).getD []).length ≤ p.size := by
    rw [← U.len_L]
    cases e : U.unesc 0 (L p) with
    | none => simp
    | some r => exact U.unesc_le e
  have h2 : (if U.esc 0 ((U.unesc 0 (L p)).getD []) = L p then E else p).size ≤ 4000 := by
    split
    · exact Nat.zero_le _
    · exact hp
  refine ⟨Nat.le_trans h.scheme (by decide), Nat.le_trans h.opq (by decide), Nat.le_trans h.user (by decide), Nat.le_trans h.pass (by decide), Nat.le_trans h.host (by decide), ?_, h2, Nat.le_trans h.rawQuery (by decide), Nat.le_trans h.fragment (by decide), Nat.le_trans h.rawFragment (by decide)⟩
  show (S _).size ≤ 4000
  rw [U.size_S]
  omega
theorem escPath_300 {v : V} (h : v.Sm 300) : (U.escPath v).length ≤ 900 := by
  have h1 := U.escPath_len v
  have h2 := h.path
  rw [U.len_L] at h1
  omega
set_option maxRecDepth 100000 in
set_option maxHeartbeats 1600000 in
theorem c_few (W : World) (l : List U.B) (p : Option Addr) (n cap : Nat) (hn : n ≤ 10) (hle : ∀ e ∈ l, e.length ≤ 50) (hL : ArgL W l p n) :
    Calls Tryz.prog 56 #[.slice p n cap] W fun e w' => e = .returned (.bool true) ∧ w' = W := by
  have HLE := Lib.hid hle
  have HL := Lib.hid hL
  have hn2 : (n : Int) ≤ 50 := by omega
  clear hle hL
  go_enter Tryz.func56, Tryz.ntmps56
  go_wp2_with fail
  go_loop [10] (fun i => ∃ k : Nat, k ≤ n ∧ i = .int .i64 k) (fun i => n - (intOf i).toNat)
  case atStart => exact ⟨0, Nat.zero_le _, rfl⟩
  case round =>
    obtain ⟨k, hk, rfl⟩ := hrel
    by_cases hlt : k < n
    · obtain ⟨gl, off, rfl, hgl, hcl⟩ := HL.out.at_ (by omega)
      have c0 := hcl k hlt
      obtain ⟨t, HT⟩ : ∃ t, Hid (S (l.getD k []) = t) := ⟨_, Lib.hid rfl⟩
      rw [HT.out] at c0
      have hkl : k < l.length := by rw [HL.out.len]; exact hlt
      have ht : (t.size : Int) ≤ 4000 := by
        have h1 := HLE.out _ (List.getElem_mem hkl)
        rw [← HT.out, U.size_S, List.getD, List.getElem?_eq_getElem hkl]
        simp only [Option.getD_some]
        omega
      clear hcl hkl hgl
      go_wp2_with fail
      go_round
      case rel => exact ⟨k + 1, by omega, by go_num⟩
      case measure => simp [intOf]; omega
    · go_wp2_with fail
      go_ret
      exact ⟨rfl, rfl⟩
set_option maxRecDepth 100000 in
set_option maxHeartbeats 1600000 in
theorem c_zzFits2 (W : World) (l : List U.B) (p : Option Addr) (n cap : Nat) (hn : n ≤ 9223372036854775807) (hL : ArgL W l p n) :
    Calls Tryz.prog 30 #[.slice p n cap] W fun e w' => (∃ b, e = .returned (.bool b)) ∧ w' = W := by
  have HL := Lib.hid hL
  clear hL
  by_cases hn2 : 2147483647 < (n : Int)
  · go_enter Tryz.func30, Tryz.ntmps30
    go_wp2_with fail
    go_ret
    exact ⟨⟨_, rfl⟩, rfl⟩
  go_enter Tryz.func30, Tryz.ntmps30
  go_wp2_with fail
  go_loop [10] (fun i => ∃ k : Nat, k ≤ n ∧ i = .int .i64 k) (fun i => n - (intOf i).toNat)
  case atStart => exact ⟨0, Nat.zero_le _, rfl⟩
  case round =>
    obtain ⟨k, hk, rfl⟩ := hrel
    by_cases hlt : k < n
    · obtain ⟨gl, off, rfl, hgl, hcl⟩ := HL.out.at_ (by omega)
      have c0 := hcl k hlt
      obtain ⟨t, HT⟩ : ∃ t, Hid (S (l.getD k []) = t) := ⟨_, Lib.hid rfl⟩
      rw [HT.out] at c0
      clear hcl hgl
      by_cases ht : 2147483647 < (t.size : Int)
      · go_wp2_with fail
        go_ret
        first | exact ⟨.inl rfl, rfl⟩ | exact ⟨.inr rfl, rfl⟩
      · go_wp2_with fail
        go_round
        case rel => exact ⟨k + 1, by omega, by go_num⟩
        case measure => simp [intOf]; omega
    · go_wp2_with fail
      go_ret
      first | exact ⟨.inl rfl, rfl⟩ | exact ⟨.inr rfl, rfl⟩
def okOf : Option (Option V) → Bool
  | some none => false
  | _ => true
theorem spec_any {W w' : World} {o : Option (Option V)} {e : Ending} (h : SpecP W o e w') : Below W.heap.size W w' ∧ e = .returned (.tuple #[((o.getD none).getD V.zero).val, .bool (okOf o), .bool o.isSome]) := by
  match o, h with
  | none, h => exact h
  | some none, h => exact h
  | some (some v), h => exact h
/-- A new reference in its block, beside another. -/
theorem new_V {W w : World} (hb : Below W.heap.size W w) (v : V) : Below W.heap.size W (w.alloc (.cells v.cells 23)) ∧ IsV (w.alloc (.cells v.cells 23)) w.heap.size v := ⟨hb.alloc hb.size _, heap_new _ _ _ rfl⟩
theorem kept_V {w : World} {g : Nat} {u : V} (h : IsV w g u) (v : V) : IsV (w.alloc (.cells v.cells 23)) g u := h.keep ((Below.refl _ _).alloc (Nat.le_refl _) _)
end Go.Proofs.YtphkohpphdcjhaaGreatDoor
