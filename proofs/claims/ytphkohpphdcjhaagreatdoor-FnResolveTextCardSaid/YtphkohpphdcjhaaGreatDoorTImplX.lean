/- Two texts: the one's reference from the other's, as a text. -/
import Derived.Test.YtphkohpphdcjhaaGreatDoorTImplV
import Derived.Test.YtphkohpphdcjhaaGreatDoorTImplR
set_option linter.unusedVariables false
namespace Go.Proofs.YtphkohpphdcjhaaGreatDoor
open Go.RowKit Go.Proofs.YtphkohpphdcjhaaGreatDoorW.PrintWords Go.Proofs.YtphkohpphdcjhaaGreatDoorW.PrintLast
open U (L S)

/-- A reference that is read is short. -/
theorem parse_short {s : ByteArray} {q : Bool} {v : V} (hs : s.size ≤ 300) (h : U.parse (L s) q = some (some v)) : v.Sm 300 := by
  have h1 := U.parse_sum h
  have h2 := U.parse_raw h
  unfold U.sum at h1
  simp only [U.len_L] at h1 h2
  exact ⟨by omega, by omega, by omega, by omega, by omega, by omega, by omega, by omega, by omega, by omega⟩
theorem setPath_sm {u : V} {p : ByteArray} (h : u.Sm 300) (hp : p.size ≤ 4000) : (U.setPath u p).1.Sm 4000 := by
  have h1 : ((U.unesc 0 (L p)).getD []).length ≤ p.size := by
    rw [← U.len_L]
    cases e : U.unesc 0 (L p) with
    | none => simp
    | some r => exact U.unesc_le e
  have h2 : (if U.esc 0 ((U.unesc 0 (L p)).getD []) = L p then E else p).size ≤ 4000 := by
    split
    · exact Nat.zero_le _
    · exact hp
  refine ⟨Nat.le_trans h.scheme (by decide), Nat.le_trans h.opq (by decide), Nat.le_trans h.user (by decide), Nat.le_trans h.pass (by decide), Nat.le_trans h.host (by decide), ?_, h2, Nat.le_trans h.rawQuery (by decide), Nat.le_trans h.fragment (by decide), Nat.le_trans h.rawFragment (by decide)⟩
  show (S _).size ≤ 4000
  rw [U.size_S]
  omega
theorem noHost_sm {u : V} (h : u.Sm 300) : (U.noHost u).Sm 4000 :=
  ⟨Nat.le_trans h.scheme (by decide), Nat.le_trans h.opq (by decide), (by decide : E.size ≤ 4000), (by decide : E.size ≤ 4000), (by decide : E.size ≤ 4000), (by decide : E.size ≤ 4000), Nat.le_trans h.rawPath (by decide), Nat.le_trans h.rawQuery (by decide), Nat.le_trans h.fragment (by decide), Nat.le_trans h.rawFragment (by decide)⟩
theorem rU_sm {b r : V} {es : Bool} (hb : b.Sm 300) (hr : r.Sm 300) : (rU b r es).Sm 300 := by
  unfold rU
  refine ⟨?_, hr.opq, hr.user, hr.pass, hr.host, hr.path, hr.rawPath, hr.rawQuery, hr.fragment, hr.rawFragment⟩
  cases es
  · exact hr.scheme
  · exact hb.scheme
theorem rQ_sm {b u : V} {q f : Bool} (hb : b.Sm 300) (hu : u.Sm 300) : (rQ b u q f).Sm 300 := by
  unfold rQ
  refine ⟨hu.scheme, hu.opq, hu.user, hu.pass, hu.host, hu.path, hu.rawPath, ?_, ?_, ?_⟩
  · cases q
    · exact hu.rawQuery
    · exact hb.rawQuery
  · cases f
    · exact hu.fragment
    · exact hb.fragment
  · cases f
    · exact hu.rawFragment
    · exact hb.rawFragment
theorem escPath_300 {v : V} (h : v.Sm 300) : (U.escPath v).length ≤ 900 := by
  have h1 := U.escPath_len v
  have h2 := h.path
  rw [U.len_L] at h1
  omega
theorem resolve_sm {b r : V} (hb : b.Sm 300) (hr : r.Sm 300) : (U.resolve b r).Sm 4000 := by
  rw [resolve_is b r _ _ _ _ _ _ rfl rfl rfl rfl rfl rfl]
  have h1 := escPath_300 hb
  have h2 := escPath_300 hr
  split
  · refine setPath_sm (rU_sm hb hr) ?_
    have := joined_len (U.escPath r) []
    rw [U.size_S]
    simp at this
    omega
  · split
    · exact noHost_sm (rU_sm hb hr)
    · have h3 := rQ_sm (q := em r.path && !r.forceQuery && em r.rawQuery) (f := (em r.path && !r.forceQuery && em r.rawQuery) && em r.fragment) hb (rU_sm (es := em r.scheme) hb hr)
      split
      · exact noHost_sm ⟨h3.scheme, hb.opq, h3.user, h3.pass, h3.host, h3.path, h3.rawPath, h3.rawQuery, h3.fragment, h3.rawFragment⟩
      · refine setPath_sm ⟨h3.scheme, h3.opq, hb.user, hb.pass, hb.host, h3.path, h3.rawPath, h3.rawQuery, h3.fragment, h3.rawFragment⟩ ?_
        have := joined_len (U.escPath b) (U.escPath r)
        rw [U.size_S]
        omega

/-- A text's reference from a base. -/
def FromP (W : World) (b : V) (o : Option V) (e : Ending) (w' : World) : Prop :=
  Below W.heap.size W w' ∧ match o with
  | none => ∃ x, IsErr x ∧ e = .returned (.tuple #[.pointer none, x])
  | some r => ∃ g, e = .returned (.tuple #[.pointer (some ⟨g, 0, none⟩), .nilIface]) ∧ IsU w' g (U.resolve b r)
set_option maxRecDepth 100000 in
set_option maxHeartbeats 3200000 in
theorem i_from (s : ByteArray) (g : Nat) (b : V) (o : Option V) (W : World) (hs : s.size ≤ 300) (hb : b.Sm 300) (hT : Tab W) (hg : IsU W g b) (hO : U.parse (L s) false = some o) :
    Calls Tryz.prog 58 #[.pointer (some ⟨g, 0, none⟩), .string s] W (FromP W b o) := by
  have CP := Lib.hid (i_Parse s o W (by omega) hT hO)
  have HO := Lib.hid hO
  have HB := Lib.hid hb
  have HT := Lib.hid hT
  have HG := Lib.hid hg
  clear hT hO hb hg
  go_enter Tryz.func58, Tryz.ntmps58
  go_wp2_with fail
  refine CP.out.mono ?_
  cases o with
  | none =>
    rintro e w2 ⟨b2, x, ⟨t, y, rfl⟩, rfl⟩
    have B2 := Lib.hid b2
    clear b2
    go_wp2_with fail
    go_ret2
    exact ⟨B2.out, _, ⟨_, _, rfl⟩, rfl⟩
  | some v =>
    rintro e w2 ⟨b2, k, rfl, hk, u2⟩
    have B2 := Lib.hid b2
    have U2 := Lib.hid u2
    clear b2 u2
    have hv := parse_short hs HO.out
    have HV := Lib.hid hv
    clear hv
    go_wp2_with fail
    refine (i_resolve w2 g k b v (HB.out.mono (by decide)) (HV.out.mono (by decide)) (HT.out.below B2.out) (HG.out.keep B2.out) U2.out).mono ?_
    rintro e w3 ⟨g3, rfl, b3, h3, u3⟩
    have B3 := Lib.hid (B2.out.trans (b3.mono B2.out.size))
    have U3 := Lib.hid u3
    clear b3 u3 h3
    go_wp2_with fail
    go_ret2
    exact ⟨B3.out, g3, rfl, U3.out⟩

/-- The text that is told. -/
def toldR (o1 o2 : Option V) : ByteArray × Bool := match o1, o2 with
  | some b, some r => (S (U.text (U.resolve b r)), true)
  | _, _ => (E, false)
set_option maxRecDepth 100000 in
set_option maxHeartbeats 3200000 in
theorem t_resolveText (s1 s2 : ByteArray) (o1 o2 : Option V) (W : World) (hs1 : s1.size ≤ 300) (hs2 : s2.size ≤ 300) (hT : Tab W) (hO1 : U.parse (L s1) false = some o1) (hO2 : U.parse (L s2) false = some o2) :
    Calls Tryz.prog 33 #[.string s1, .string s2] W fun e w' => e = .returned (.tuple #[.string (toldR o1 o2).1, .bool (toldR o1 o2).2]) ∧ Below W.heap.size W w' := by
  have CP := Lib.hid (i_Parse s1 o1 W (by omega) hT hO1)
  have HO1 := Lib.hid hO1
  have HO2 := Lib.hid hO2
  have HT := Lib.hid hT
  clear hT hO1 hO2
  have hz1 : (s1.size : Int) ≤ 4000 := by omega
  have hz2 : (s2.size : Int) ≤ 4000 := by omega
  go_enter Tryz.func33, Tryz.ntmps33
  go_wp2_with fail
  refine CP.out.mono ?_
  cases o1 with
  | none =>
    rintro e w2 ⟨b2, x, ⟨t, y, rfl⟩, rfl⟩
    have B2 := Lib.hid b2
    clear b2
    go_wp2_with fail
    go_ret2
    exact ⟨rfl, B2.out⟩
  | some b =>
    rintro e w2 ⟨b2, g, rfl, hg, u2⟩
    have B2 := Lib.hid b2
    have U2 := Lib.hid u2
    have HB := Lib.hid (parse_short hs1 HO1.out)
    clear b2 u2
    go_wp2_with fail
    refine (i_from s2 g b o2 w2 hs2 HB.out (HT.out.below B2.out) U2.out HO2.out).mono ?_
    cases o2 with
    | none =>
      rintro e w3 ⟨b3, x, ⟨t, y, rfl⟩, rfl⟩
      have B3 := Lib.hid (B2.out.trans (b3.mono B2.out.size))
      clear b3
      go_wp2_with fail
      go_ret2
      exact ⟨rfl, B3.out⟩
    | some r =>
      rintro e w3 ⟨b3, k, rfl, u3⟩
      have B3 := Lib.hid (B2.out.trans (b3.mono B2.out.size))
      have U3 := Lib.hid u3
      have HS := Lib.hid (resolve_sm HB.out (parse_short hs2 HO2.out))
      clear b3 u3
      go_wp2_with fail
      refine (i_text w3 k _ HS.out (HT.out.below B3.out) U3.out).mono ?_
      rintro e w4 ⟨rfl, b4⟩
      have B4 := Lib.hid (B3.out.trans (b4.mono B3.out.size))
      clear b4
      go_wp2_with fail
      go_ret2
      exact ⟨rfl, B4.out⟩
end Go.Proofs.YtphkohpphdcjhaaGreatDoor
