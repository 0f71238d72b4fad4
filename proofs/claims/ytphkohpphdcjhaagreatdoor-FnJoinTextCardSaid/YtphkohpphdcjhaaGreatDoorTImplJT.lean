/- A text, joined: the package's JoinPath. -/
import Derived.Test.YtphkohpphdcjhaaGreatDoorTImplY
import Derived.Test.YtphkohpphdcjhaaGreatDoorTJB
import Derived.Test.YtphkohpphdcjhaaGreatDoorTImplR
set_option linter.unusedVariables false
namespace Go.Proofs.YtphkohpphdcjhaaGreatDoor
open Go.RowKit Go.Proofs.YtphkohpphdcjhaaGreatDoorW.PrintWords Go.Proofs.YtphkohpphdcjhaaGreatDoorW.PrintLast
open U (L S)

/-- The text that JoinPath gives. -/
def JoinTP (W : World) (o : Option V) (l : List U.B) (e : Ending) (w' : World) : Prop :=
  Below W.heap.size W w' ∧ match o with
  | none => ∃ t x, IsErr x ∧ e = .returned (.tuple #[.string t, x])
  | some b => if (U.join b l).2 = true then e = .returned (.tuple #[.string (S (U.text (U.join b l).1)), .nilIface]) else ∃ t x, IsErr x ∧ e = .returned (.tuple #[.string t, x])
set_option maxRecDepth 100000 in
set_option maxHeartbeats 3200000 in
theorem i_joinT (s : ByteArray) (o : Option V) (W : World) (l : List U.B) (p : Option Addr) (n cap : Nat) (hs : s.size ≤ 300) (hn : n ≤ 10) (hle : ∀ e ∈ l, e.length ≤ 50) (hL : ArgL W l p n) (hnil : p = none → n = 0 ∧ cap = 0) (hT : Tab W) (hO : U.parse (L s) false = some o) (hJ : ∀ v, o = some v → (U.join v l).1.Sm 4000) :
    Calls Tryz.prog 59 #[.string s, .slice p n cap] W (JoinTP W o l) := by
  have CP := Lib.hid (i_Parse s o W (by omega) hT hO)
  have HO := Lib.hid hO
  have HT := Lib.hid hT
  have HL := Lib.hid hL
  have HN := Lib.hid hnil
  have HLE := Lib.hid hle
  have HJ := Lib.hid hJ
  clear hT hO hL hnil hle hJ
  go_enter Tryz.func59, Tryz.ntmps59
  go_wp2_with fail
  refine CP.out.mono ?_
  cases o with
  | none =>
    rintro e w2 ⟨b2, x, ⟨t, y, rfl⟩, rfl⟩
    have B2 := Lib.hid b2
    clear b2
    go_wp2_with fail
    go_ret2
    exact ⟨B2.out, _, _, ⟨_, _, rfl⟩, rfl⟩
  | some v =>
    rintro e w2 ⟨b2, k, rfl, hk, u2⟩
    have B2 := Lib.hid b2
    have U2 := Lib.hid u2
    clear b2 u2
    have HV := Lib.hid (parse_short hs HO.out)
    have CJ := Lib.hid (i_joinPath w2 k v l p n cap (HV.out.mono (by decide)) hn HLE.out (HL.out.keep B2.out) HN.out (HT.out.below B2.out) U2.out)
    have HS := Lib.hid (HJ.out v rfl)
    go_wp2_with fail
    refine CJ.out.mono ?_
    rintro e w3 ⟨b3, g3, h3⟩
    have B3 := Lib.hid (B2.out.trans (b3.mono B2.out.size))
    clear b3 CJ
    obtain ⟨ok, HOK⟩ : ∃ x, Hid ((U.join v l).2 = x) := ⟨_, Lib.hid rfl⟩
    rw [HOK.out] at h3
    cases ok
    · obtain ⟨⟨x, ⟨t, y, rfl⟩, rfl⟩, u3⟩ := h3
      go_wp2_with fail
      go_ret2
      refine ⟨B3.out, ?_⟩
      show if (U.join v l).2 = true then _ else _
      rw [HOK.out]
      exact ⟨_, _, ⟨_, _, rfl⟩, rfl⟩
    · obtain ⟨rfl, u3⟩ := h3
      have U3 := Lib.hid u3
      clear u3
      go_wp2_with fail
      refine (i_text w3 g3 _ HS.out (HT.out.below B3.out) U3.out).mono ?_
      rintro e w4 ⟨rfl, b4⟩
      have B4 := Lib.hid (B3.out.trans (b4.mono B3.out.size))
      clear b4
      go_wp2_with fail
      go_ret2
      refine ⟨B4.out, ?_⟩
      show if (U.join v l).2 = true then _ else _
      rw [HOK.out]
      rfl

/-- The text that is told. -/
def toldJ (o : Option V) (l : List U.B) : ByteArray × Bool := match o with
  | some b => if (U.join b l).2 = true then (S (U.text (U.join b l).1), true) else (E, false)
  | none => (E, false)
set_option maxRecDepth 100000 in
set_option maxHeartbeats 3200000 in
theorem t_joinText (s : ByteArray) (o : Option V) (W : World) (l : List U.B) (p : Option Addr) (n cap : Nat) (hs : s.size ≤ 300) (hn : n ≤ 10) (hle : ∀ e ∈ l, e.length ≤ 50) (hL : ArgL W l p n) (hnil : p = none → n = 0 ∧ cap = 0) (hT : Tab W) (hO : U.parse (L s) false = some o) (hJ : ∀ v, o = some v → (U.join v l).1.Sm 4000) :
    Calls Tryz.prog 34 #[.string s, .slice p n cap] W fun e w' => e = .returned (.tuple #[.string (toldJ o l).1, .bool (toldJ o l).2]) ∧ Below W.heap.size W w' := by
  have CF := Lib.hid (c_few W l p n cap hn hle hL)
  have CJ := Lib.hid (i_joinT s o W l p n cap hs hn hle hL hnil hT hO hJ)
  have hz : (s.size : Int) ≤ 4000 := by omega
  clear hL hnil hT hO hJ hle
  go_enter Tryz.func34, Tryz.ntmps34
  go_wp2_with fail
  refine CF.out.mono ?_
  rintro e w1 ⟨rfl, rfl⟩
  go_wp2_with fail
  refine CJ.out.mono ?_
  rintro e w2 ⟨b2, h2⟩
  have B2 := Lib.hid b2
  clear b2 CJ CF
  cases o with
  | none =>
    obtain ⟨t, x, ⟨t', y, rfl⟩, rfl⟩ := h2
    go_wp2_with fail
    go_ret2
    exact ⟨rfl, B2.out⟩
  | some b =>
    obtain ⟨ok, HOK⟩ : ∃ x, Hid ((U.join b l).2 = x) := ⟨_, Lib.hid rfl⟩
    have ht : toldJ (some b) l = if (U.join b l).2 = true then (S (U.text (U.join b l).1), true) else (E, false) := rfl
    rw [HOK.out] at ht
    change (if (U.join b l).2 = true then _ else _) at h2
    rw [HOK.out] at h2
    have HTJ := Lib.hid ht
    clear ht
    cases ok
    · obtain ⟨t, x, ⟨t', y, rfl⟩, rfl⟩ := h2
      go_wp2_with fail
      go_ret2
      refine ⟨?_, B2.out⟩
      rw [HTJ.out]
      rfl
    · obtain rfl := h2
      go_wp2_with fail
      go_ret2
      refine ⟨?_, B2.out⟩
      rw [HTJ.out]
      rfl
end Go.Proofs.YtphkohpphdcjhaaGreatDoor
