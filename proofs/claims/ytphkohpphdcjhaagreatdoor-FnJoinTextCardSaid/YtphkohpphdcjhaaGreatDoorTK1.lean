/- Plain words on lists of bytes and on references. -/
import Derived.Lib.IndexBytes
import Derived.Lib.CleanFns
import Derived.Lib.CleanSame
import Derived.Lib.JoinFns
import Derived.Lib.JoinSame2
namespace Go.Proofs.YtphkohpphdcjhaaGreatDoor.U

/-- A text as its bytes. -/
abbrev B := List UInt8
def L (s : ByteArray) : B := s.data.toList
def S (l : B) : ByteArray := ⟨l.toArray⟩
@[simp] theorem L_S (l : B) : L (S l) = l := rfl
@[simp] theorem S_L (s : ByteArray) : S (L s) = s := Lib.mk_data s
theorem L_inj {a b : ByteArray} (h : L a = L b) : a = b := by rw [← S_L a, ← S_L b, h]
theorem len_L (s : ByteArray) : (L s).length = s.size := (Lib.size_eq s).symm
theorem size_S (l : B) : (S l).size = l.length := by rw [← len_L]; rfl
theorem toList_L (s : ByteArray) : s.toList = L s := Lib.toList_data s
theorem S_nil : S [] = ⟨#[]⟩ := rfl
theorem L_nil {s : ByteArray} (h : L s = []) : s = ⟨#[]⟩ := L_inj h
theorem ext_S (s : ByteArray) (a b : Nat) : s.extract a b = S (((L s).drop a).take (b - a)) := Lib.extract_eq s a b
theorem ext_to (s : ByteArray) (a : Nat) : s.extract 0 a = S ((L s).take a) := by rw [ext_S]; simp
theorem ext_from (s : ByteArray) (a : Nat) : s.extract a s.size = S ((L s).drop a) := by
  rw [ext_S, List.take_of_length_le (by rw [List.length_drop, len_L]; exact Nat.le_refl _)]
theorem app_S (a b : ByteArray) : a ++ b = S (L a ++ L b) := L_inj (by
  show (a ++ b).data.toList = _
  rw [ByteArray.data_append, Array.toList_append]
  rfl)

def letter (c : UInt8) : Bool := decide (97 ≤ c.toNat) && decide (c.toNat ≤ 122) || decide (65 ≤ c.toNat) && decide (c.toNat ≤ 90)
def digit (c : UInt8) : Bool := decide (48 ≤ c.toNat) && decide (c.toNat ≤ 57)
def among (c : UInt8) (l : B) : Bool := l.any fun x => x == c
def extra : Nat → B
  | 0 => [36, 38, 43, 44, 47, 58, 59, 61, 64]
  | 1 => [36, 38, 43, 44, 59, 61]
  | 2 => [33, 36, 38, 39, 40, 41, 42, 43, 44, 59, 61, 58, 91, 93, 60, 62, 34]
  | _ => [36, 38, 43, 44, 47, 58, 59, 61, 63, 64, 33, 40, 41, 42]
/-- A byte that needs no escape: 0 in a path, 1 in a user, 2 in a host, 3 in a fragment. -/
def free (w : Nat) (c : UInt8) : Bool := letter c || digit c || among c [45, 95, 46, 126] || among c (extra w)
def figs : B := [48, 49, 50, 51, 52, 53, 54, 55, 56, 57, 65, 66, 67, 68, 69, 70]
def esc1 (w : Nat) (c : UInt8) : B := if free w c then [c] else [37, figs.getD (c.toNat / 16) 0, figs.getD (c.toNat % 16) 0]
def esc (w : Nat) (l : B) : B := l.flatMap (esc1 w)
/-- The value of a figure to the base 16, -1 of another byte. -/
def hexv (c : UInt8) : Int :=
  if digit c then (c.toNat : Int) - 48 else if 97 ≤ c.toNat ∧ c.toNat ≤ 102 then (c.toNat : Int) - 87 else if 65 ≤ c.toNat ∧ c.toNat ≤ 70 then (c.toNat : Int) - 55 else -1
/-- What may stand in a host as it is. -/
def stands (w : Nat) (c : UInt8) : Bool := !(decide (w = 2) && decide (c.toNat < 128) && !free 2 c)
/-- What may be escaped. -/
def escapes (w : Nat) (v : Int) : Bool := !(decide (w = 2) && decide (v < 128) && !decide (v = 37))
def unesc (w : Nat) : B → Option B
  | [] => some []
  | c :: r =>
    if c.toNat = 37 then
      match r with
      | a :: b :: r' =>
        if hexv a < 0 ∨ hexv b < 0 then none
        else if escapes w (hexv a * 16 + hexv b) = true then (unesc w r').map (UInt8.ofNat (hexv a * 16 + hexv b).toNat :: ·) else none
      | _ => none
    else if stands w c = true then (unesc w r).map (c :: ·) else none
/-- The first place of a byte; the length where it isn't. -/
def idx (c : UInt8) : B → Nat
  | [] => 0
  | x :: r => if x = c then 0 else idx c r + 1
def cut (c : UInt8) (l : B) : B × B × Bool := (l.take (idx c l), l.drop (idx c l + 1), decide (idx c l < l.length))
/-- The last place of a byte, -1 where it isn't. -/
def lastI (c : UInt8) : B → Int
  | [] => -1
  | x :: r => if 0 ≤ lastI c r then lastI c r + 1 else if x = c then 0 else -1
/-- The scheme: l the whole text, then what is left of it, and where that begins. -/
def sch (l : B) : B → Nat → B × B × Bool
  | [], _ => ([], l, true)
  | c :: r, i =>
    if letter c then sch l r (i + 1)
    else if digit c || among c [43, 45, 46] then (if i = 0 then ([], l, true) else sch l r (i + 1))
    else if c.toNat = 58 then (l.take i, l.drop (i + 1), decide (0 < i))
    else ([], l, true)
def scheme (l : B) : B × B × Bool := sch l l 0
def low1 (c : UInt8) : UInt8 := if 65 ≤ c.toNat ∧ c.toNat ≤ 90 then c + 32 else c
def lower (l : B) : B := l.map low1
/-- Empty, or a colon and figures. -/
def port : B → Bool
  | [] => true
  | c :: r => decide (c.toNat = 58) && r.all digit
def ctl1 (c : UInt8) : Bool := decide (c.toNat < 32) || decide (c.toNat = 127)
def kept1 (w : Nat) (c : UInt8) : Bool := among c [33, 36, 38, 39, 40, 41, 42, 43, 44, 59, 61, 58, 64, 91, 93, 37] || free w c
def kept (w : Nat) (l : B) : Bool := l.all (kept1 w)
def user1 (c : UInt8) : Bool := letter c || digit c || among c [45, 46, 95, 58, 126, 33, 36, 38, 39, 40, 41, 42, 43, 44, 59, 61, 37, 64]

theorem drop_at {α : Type} (l : List α) (k : Nat) (h : k < l.length) : l.drop k = l[k] :: l.drop (k + 1) := List.drop_eq_getElem_cons h
theorem take_at {α : Type} (l : List α) (k : Nat) (h : k < l.length) : l.take (k + 1) = l.take k ++ [l[k]] := List.take_succ_eq_append_getElem h

theorem idx_le (c : UInt8) : ∀ l : B, idx c l ≤ l.length
  | [] => Nat.le_refl _
  | x :: r => by
    unfold idx
    have := idx_le c r
    split <;> simp <;> omega
theorem idx_drop (c : UInt8) (l : B) (i : Nat) (h : i < l.length) : idx c (l.drop i) = if l[i] = c then 0 else idx c (l.drop (i + 1)) + 1 := by
  rw [drop_at l i h]
  rfl
theorem lastI_ge (c : UInt8) : ∀ l : B, -1 ≤ lastI c l
  | [] => Int.le_refl _
  | x :: r => by
    have := lastI_ge c r
    unfold lastI
    split <;> (try split) <;> omega
theorem lastI_lt (c : UInt8) : ∀ l : B, lastI c l < l.length
  | [] => by simp [lastI]
  | x :: r => by
    have := lastI_lt c r
    unfold lastI
    simp only [List.length_cons]
    split <;> (try split) <;> omega
theorem lastI_snoc (c x : UInt8) : ∀ l : B, lastI c (l ++ [x]) = if x = c then (l.length : Int) else lastI c l
  | [] => by simp [lastI]
  | y :: r => by
    have ih := lastI_snoc c x r
    show (if 0 ≤ lastI c (r ++ [x]) then lastI c (r ++ [x]) + 1 else if y = c then 0 else -1) = _
    rw [ih]
    by_cases h : x = c
    · simp [h]
    · simp only [h, if_false]
      rfl
theorem unesc_len (w : Nat) : ∀ (n : Nat) (l r : B), l.length ≤ n → unesc w l = some r → r.length ≤ l.length
  | _, [], r, _, h => by
    have : r = [] := by simpa [unesc] using h.symm
    rw [this]
    exact Nat.le_refl _
  | 0, _ :: _, _, hn, _ => by simp at hn
  | n + 1, c :: l, r, hn, h => by
    unfold unesc at h
    by_cases h37 : c.toNat = 37
    · rw [if_pos h37] at h
      match l, hn, h with
      | [], _, h => exact absurd h (by simp)
      | [_], _, h => exact absurd h (by simp)
      | a :: b :: l, hn, h =>
        simp only at h
        by_cases h1 : hexv a < 0 ∨ hexv b < 0
        · rw [if_pos h1] at h
          exact absurd h (by simp)
        · rw [if_neg h1] at h
          by_cases h2 : escapes w (hexv a * 16 + hexv b) = true
          · rw [if_pos h2] at h
            obtain ⟨q, hq, rfl⟩ := Option.map_eq_some_iff.1 h
            have := unesc_len w n l q (by simp at hn; omega) hq
            simp
            omega
          · rw [if_neg h2] at h
            exact absurd h (by simp)
    · rw [if_neg h37] at h
      by_cases h2 : stands w c = true
      · rw [if_pos h2] at h
        obtain ⟨q, hq, rfl⟩ := Option.map_eq_some_iff.1 h
        have := unesc_len w n l q (by simp at hn; omega) hq
        simp
        omega
      · rw [if_neg h2] at h
        exact absurd h (by simp)
theorem esc1_len (w : Nat) (c : UInt8) : (esc1 w c).length ≤ 3 := by
  unfold esc1
  split <;> simp
theorem esc_len (w : Nat) : ∀ l : B, (esc w l).length ≤ 3 * l.length
  | [] => Nat.le_refl _
  | c :: l => by
    have := esc_len w l
    have := esc1_len w c
    show ((esc1 w c) ++ esc w l).length ≤ _
    rw [List.length_append]
    simp only [List.length_cons]
    omega
theorem cut_len1 (c : UInt8) (l : B) : (cut c l).1.length ≤ l.length := by simp [cut]; omega
theorem cut_len2 (c : UInt8) (l : B) : (cut c l).2.1.length ≤ l.length := by simp [cut]
theorem sch_len (l : B) : ∀ (r : B) (i : Nat), (sch l r i).1.length ≤ l.length ∧ (sch l r i).2.1.length ≤ l.length
  | [], i => by simp [sch]
  | c :: r, i => by
    have ih := sch_len l r (i + 1)
    unfold sch
    split
    · exact ih
    · split
      · split
        · simp
        · exact ih
      · split
        · simp
          omega
        · simp
end Go.Proofs.YtphkohpphdcjhaaGreatDoor.U
namespace Go.Proofs.YtphkohpphdcjhaaGreatDoor
open U (L S)

/-- A reference as plain data. -/
structure V where
  (scheme opq user pass : ByteArray)
  (hasUser hasPass : Bool)
  (host path rawPath : ByteArray)
  (omitHost forceQuery : Bool)
  (rawQuery fragment rawFragment : ByteArray)

abbrev E : ByteArray := ⟨#[]⟩
def V.zero : V := ⟨E, E, E, E, false, false, E, E, E, false, false, E, E, E⟩
/-- A user's name and password stand with their truths alone. -/
def V.fair (v : V) : Prop := (v.hasUser = false → L v.user = [] ∧ v.hasPass = false) ∧ (v.hasPass = false → L v.pass = [])

namespace U
/-- What is written of a path or a fragment: as it was read, or with escapes. -/
def kept? (w : Nat) (raw text : B) : Bool := !raw.isEmpty && kept w raw && (unesc w raw == some text)
def escPath (v : V) : B := if kept? 0 (L v.rawPath) (L v.path) then L v.rawPath else if L v.path = [42] then [42] else esc 0 (L v.path)
def escFrag (v : V) : B := if kept? 3 (L v.rawFragment) (L v.fragment) then L v.rawFragment else esc 3 (L v.fragment)
/-- A path given to a reference, and whether its escapes are right. -/
def setPath (v : V) (s : ByteArray) : V × Bool :=
  let p := (unesc 0 (L s)).getD []
  ({ v with path := S p, rawPath := if esc 0 p = L s then E else s }, (unesc 0 (L s)).isSome)
def userText (v : V) : B := esc 1 (L v.user) ++ (if v.hasPass then 58 :: esc 1 (L v.pass) else [])
/-- What stands ahead of the path. -/
def front (v : V) : B :=
  (if L v.scheme = [] then [] else L v.scheme ++ [58]) ++
  (if (L v.scheme ≠ [] ∨ L v.host ≠ [] ∨ v.hasUser = true) ∧ (v.omitHost = false ∨ L v.host ≠ [] ∨ v.hasUser = true) then
    (if L v.host ≠ [] ∨ L v.path ≠ [] ∨ v.hasUser = true then [47, 47] else []) ++ (if v.hasUser then userText v ++ [64] else []) ++ esc 2 (L v.host)
   else [])
def bare (v : V) : Bool := v.omitHost && (L v.host).isEmpty && !v.hasUser
def midText (v : V) : B :=
  let p := escPath v
  let f := front v ++ (if p ≠ [] ∧ p.head? ≠ some 47 ∧ L v.host ≠ [] then [47] else [])
  (if f = [] ∧ among 58 (cut 47 p).1 = true then [46, 47] else f) ++ (if bare v = true ∧ p.take 2 = [47, 47] then [37, 50, 70] ++ p.drop 1 else p)
def tail (v : V) : B :=
  (if v.forceQuery = true ∨ L v.rawQuery ≠ [] then 63 :: L v.rawQuery else []) ++ (if L v.fragment ≠ [] then 35 :: escFrag v else [])
def text (v : V) : B :=
  (if L v.opq ≠ [] then (if L v.scheme = [] then [] else L v.scheme ++ [58]) ++ L v.opq else midText v) ++ tail v
def request (v : V) : B :=
  (if L v.opq = [] then (if escPath v = [] then [47] else escPath v) else if (L v.opq).take 2 = [47, 47] then L v.scheme ++ [58] ++ L v.opq else L v.opq) ++
  (if v.forceQuery = true ∨ L v.rawQuery ≠ [] then 63 :: L v.rawQuery else [])

/-- An authority: not told, refused, or a host, and a user with a password or none. -/
def authority (l : B) : Option (Option (B × Option (B × B × Bool))) :=
  let at_ := lastI 64 l
  let host := l.drop (at_ + 1).toNat
  let c := cut 58 host
  if among 91 host || among 93 host then none
  else if c.2.2 && among 58 c.2.1 then none
  else if c.2.2 && !port (58 :: c.2.1) then some none
  else match unesc 2 host with
    | none => some none
    | some h =>
      if at_ < 0 then some (some (h, none))
      else
        let who := l.take at_.toNat
        let d := cut 58 who
        if !who.all user1 then some none
        else match unesc 1 d.1, unesc 1 d.2.1 with
          | some n, some p => some (some (h, some (n, p, d.2.2)))
          | _, _ => some none

/-- The authority and the path behind a scheme. -/
def rest (u : V) (r : B) (request : Bool) : Option (Option V) :=
  if (L u.scheme ≠ [] ∨ request = false ∧ r.take 3 ≠ [47, 47, 47]) ∧ r.take 2 = [47, 47] then
    let a := r.drop 2
    let auth := (cut 47 a).1
    let path := a.drop auth.length
    match authority auth with
    | none => none
    | some none => some none
    | some (some (h, who)) =>
      let v := { u with host := S h, user := S ((who.map (·.1)).getD []), pass := S ((who.map (·.2.1)).getD []), hasUser := who.isSome, hasPass := (who.map (·.2.2)).getD false }
      some (if (setPath v (S path)).2 then some (setPath v (S path)).1 else none)
  else
    let v := if L u.scheme ≠ [] ∧ r ≠ [] then { u with omitHost := true } else u
    some (if (setPath v (S r)).2 then some (setPath v (S r)).1 else none)
def parts (l : B) (request : Bool) : Option (Option V) :=
  let s := scheme l
  if s.2.2 = false then some none
  else
    let q := cut 63 s.2.1
    let u := { V.zero with scheme := S (lower s.1), forceQuery := q.2.2 && q.2.1.isEmpty, rawQuery := S q.2.1 }
    if q.1.head? ≠ some 47 then
      if lower s.1 ≠ [] then some (some { u with opq := S q.1 })
      else if request || among 58 (cut 47 q.1).1 then some none
      else rest u q.1 request
    else rest u q.1 request
def parse1 (l : B) (request : Bool) : Option (Option V) :=
  if l.any ctl1 then some none
  else if l.isEmpty && request then some none
  else if l = [42] then some (some { V.zero with path := S [42] })
  else parts l request
/-- A text as a reference: not told, refused, or its parts. -/
def parse (l : B) (request : Bool) : Option (Option V) :=
  let c := if request then (l, [], false) else cut 35 l
  match parse1 c.1 request with
  | none => none
  | some none => some none
  | some (some v) =>
    if c.2.1.isEmpty then some (some v)
    else match unesc 3 c.2.1 with
      | none => some none
      | some f => some (some { v with fragment := S f, rawFragment := if esc 3 f = c.2.1 then E else S c.2.1 })
end U
end Go.Proofs.YtphkohpphdcjhaaGreatDoor
namespace Go.Proofs.YtphkohpphdcjhaaGreatDoor
open U (L S)
namespace U
/-- The elements between the slashes. -/
abbrev els (l : B) : List B := Lib.Pa.els l

theorem els_cut : ∀ l : B, els l = if (cut 47 l).2.2 = true then (cut 47 l).1 :: els (cut 47 l).2.1 else [l]
  | [] => by simp [els, Lib.Pa.els, cut, idx]
  | c :: t => by
    have ih := els_cut t
    by_cases hc : c = 47
    · subst hc
      simp [els, Lib.Pa.els, cut, idx]
    · show (if c = 47 then [] :: Lib.Pa.els t else match Lib.Pa.els t with
        | e :: r => (c :: e) :: r
        | [] => [[c]]) = _
      rw [if_neg hc]
      have e1 : idx 47 (c :: t) = idx 47 t + 1 := by simp [idx, hc]
      simp only [cut, decide_eq_true_eq, e1, List.length_cons, Nat.add_lt_add_iff_right, List.take_succ_cons, List.drop_succ_cons] at ih ⊢
      unfold els at ih
      rw [ih]
      by_cases h : idx 47 t < t.length
      · simp only [if_pos h]
      · simp only [if_neg h]
theorem els_ne (l : B) : els l ≠ [] := by
  rw [els_cut]
  split <;> simp
theorem cut_found (c : UInt8) (l : B) (h : (cut c l).2.2 = true) : l = (cut c l).1 ++ c :: (cut c l).2.1 := by
  simp only [cut, decide_eq_true_eq] at h ⊢
  have e : l.drop (idx c l) = c :: l.drop (idx c l + 1) := by
    rw [drop_at l _ h]
    congr 1
    have : ∀ (l : B) (h : idx c l < l.length), l[idx c l] = c := by
      intro l
      induction l with
      | nil => intro h; simp at h
      | cons x r ih =>
        intro h
        by_cases hx : x = c
        · simp [idx, hx]
        · have e2 : idx c (x :: r) = idx c r + 1 := by simp [idx, hx]
          have h' : idx c r < r.length := by
            rw [e2] at h
            simpa using h
          have := ih h'
          simp only [e2, List.getElem_cons_succ]
          exact this
    exact this l h
  rw [← e]
  exact (List.take_append_drop _ _).symm
theorem cut_none (c : UInt8) (l : B) (h : (cut c l).2.2 = false) : (cut c l).1 = l ∧ (cut c l).2.1 = [] := by
  simp only [cut, decide_eq_false_iff_not] at h ⊢
  have := idx_le c l
  exact ⟨List.take_of_length_le (by omega), List.drop_eq_nil_of_le (by omega)⟩

/-- One element behind what is written; and whether nothing is written. -/
def jStep (st : B × Bool) (e : B) : B × Bool :=
  if e = [46] then (st.1, false)
  else if e = [46, 46] then
    if 0 < lastI 47 (st.1.drop 1) then (st.1.take (1 + (lastI 47 (st.1.drop 1)).toNat), st.2) else ([47], true)
  else ((if st.2 then st.1 else st.1 ++ [47]) ++ e, false)
/-- What is written, the last element known. -/
def jEnd1 (o e : B) : B := if e = [46] ∨ e = [46, 46] then o ++ [47] else o
def jEnd (o e : B) : B := if (jEnd1 o e).tail.head? = some 47 then (jEnd1 o e).tail else jEnd1 o e
def jFull (base ref : B) : B := if ref = [] then base else if ref.head? ≠ some 47 then base.take (lastI 47 base + 1).toNat ++ ref else ref
def jAll (full : B) : B := jEnd ((els full).foldl jStep ([47], true)).1 ((els full).getLastD [])
/-- A path behind another one, without . and .. as elements. -/
def joined (base ref : B) : B := if jFull base ref = [] then [] else jAll (jFull base ref)

/-- A reference from a base. -/
def noHost (u : V) : V := { u with user := E, pass := E, hasUser := false, hasPass := false, host := E, path := E }
def resolve (base ref : V) : V :=
  let u := { ref with scheme := if L ref.scheme = [] then base.scheme else ref.scheme }
  if L ref.scheme ≠ [] ∨ L ref.host ≠ [] ∨ ref.hasUser = true then (setPath u (S (joined (escPath ref) []))).1
  else if L ref.opq ≠ [] then noHost u
  else
    let q := decide (L ref.path = [] ∧ ref.forceQuery = false ∧ L ref.rawQuery = [])
    let f := q && decide (L ref.fragment = [])
    let u2 := { u with rawQuery := if q then base.rawQuery else u.rawQuery, fragment := if f then base.fragment else u.fragment, rawFragment := if f then base.rawFragment else u.rawFragment }
    if L ref.path = [] ∧ L base.opq ≠ [] then noHost { u2 with opq := base.opq }
    else (setPath { u2 with host := base.host, user := base.user, pass := base.pass, hasUser := base.hasUser, hasPass := base.hasPass } (S (joined (escPath base) (escPath ref)))).1

/-- A path that begins with a slash, without elements that are empty, . or .. -/
def cStep (l : List B) (e : B) : List B := if e = [] ∨ e = [46] then l else if e = [46, 46] then l.dropLast else l ++ [e]
def slashed (l : List B) : B := l.flatMap fun e => 47 :: e
def clean (s : B) : B := if slashed ((els s).foldl cStep []) = [] then [47] else slashed ((els s).foldl cStep [])
def joinAll (first : B) (list : List B) : B := list.foldl (fun a e => a ++ 47 :: e) (47 :: first)
def joinEnd (first : B) (list : List B) : B := list.getLastD (if first.head? = some 47 then first else 47 :: first)
def joinPath (first : B) (list : List B) : B :=
  let p := if first.head? = some 47 then clean (joinAll first list) else (clean (joinAll first list)).drop 1
  if (joinEnd first list).getLast? = some 47 ∧ p.getLast? ≠ some 47 then p ++ [47] else p
/-- A reference with elements behind its path, and whether their escapes are right. -/
def join (u : V) (list : List B) : V × Bool := setPath u (S (joinPath (escPath u) list))

/-! ### Escapes are right -/
def ok (l : B) : Bool := (unesc 0 l).isSome
theorem ok_nil : ok [] = true := rfl
theorem ok_cons {c : UInt8} {r : B} (h : c ≠ 37) : ok (c :: r) = ok r := by
  have h' : ¬ c.toNat = 37 := fun e => h (UInt8.toNat_inj.1 e)
  unfold ok
  conv => lhs; unfold unesc
  rw [if_neg h', if_pos (show stands 0 c = true from rfl), Option.isSome_map]
theorem ok_pct (a b : UInt8) (r : B) : ok (37 :: a :: b :: r) = (decide (0 ≤ hexv a) && decide (0 ≤ hexv b) && ok r) := by
  simp only [ok, unesc, escapes]
  rw [if_pos (by decide)]
  by_cases h : hexv a < 0 ∨ hexv b < 0
  · rw [if_pos h]
    rcases h with h | h
    · simp [show ¬ 0 ≤ hexv a by omega]
    · simp [show ¬ 0 ≤ hexv b by omega]
  · rw [if_neg h]
    simp [show 0 ≤ hexv a by omega, show 0 ≤ hexv b by omega]
theorem ok_short1 : ok [37] = false := rfl
theorem ok_short2 (a : UInt8) : ok [37, a] = false := rfl
theorem ok_app (b : B) (hb : ok b = true) : ∀ (n : Nat) (a : B), a.length ≤ n → ok a = true → ok (a ++ b) = true
  | _, [], _, _ => hb
  | 0, _ :: _, h, _ => by simp at h
  | n + 1, c :: r, h, ha => by
    by_cases hc : c = 37
    · subst hc
      match r, h, ha with
      | [], _, ha => exact absurd ha (by rw [ok_short1]; decide)
      | [x], _, ha => exact absurd ha (by rw [ok_short2]; decide)
      | x :: y :: r', h, ha =>
        rw [ok_pct] at ha
        show ok (37 :: x :: y :: (r' ++ b)) = true
        rw [ok_pct]
        simp only [Bool.and_eq_true] at ha ⊢
        exact ⟨ha.1, ok_app b hb n r' (by simp at h; omega) ha.2⟩
    · rw [ok_cons hc] at ha
      show ok (c :: (r ++ b)) = true
      rw [ok_cons hc]
      exact ok_app b hb n r (by simp at h; omega) ha
theorem ok_append {a b : B} (ha : ok a = true) (hb : ok b = true) : ok (a ++ b) = true := ok_app b hb a.length a (Nat.le_refl _) ha
theorem ok_sp (b : B) : ∀ (n : Nat) (a : B), a.length ≤ n → ok (a ++ 47 :: b) = true → ok a = true ∧ ok b = true
  | _, [], _, h => ⟨rfl, by rwa [List.nil_append, ok_cons (by decide)] at h⟩
  | 0, _ :: _, h, _ => by simp at h
  | n + 1, c :: r, h, ha => by
    by_cases hc : c = 37
    · subst hc
      match r, h, ha with
      | [], _, ha =>
        exfalso
        match b, ha with
        | [], ha => exact absurd ha (by decide)
        | y :: b', ha =>
          rw [show ([37] ++ 47 :: y :: b' : B) = 37 :: 47 :: y :: b' from rfl, ok_pct, show decide (0 ≤ hexv 47) = false by decide] at ha
          simp at ha
      | [x], _, ha =>
        exfalso
        rw [show ([37, x] ++ 47 :: b : B) = 37 :: x :: 47 :: b from rfl, ok_pct, show decide (0 ≤ hexv 47) = false by decide] at ha
        simp at ha
      | x :: y :: r', h, ha =>
        rw [show (37 :: x :: y :: r' ++ 47 :: b : B) = 37 :: x :: y :: (r' ++ 47 :: b) from rfl, ok_pct] at ha
        simp only [Bool.and_eq_true] at ha
        have := ok_sp b n r' (by simp at h; omega) ha.2
        refine ⟨?_, this.2⟩
        rw [ok_pct]
        simp only [Bool.and_eq_true]
        exact ⟨ha.1, this.1⟩
    · rw [show (c :: r ++ 47 :: b : B) = c :: (r ++ 47 :: b) from rfl, ok_cons hc] at ha
      have := ok_sp b n r (by simp at h; omega) ha
      exact ⟨by rw [ok_cons hc]; exact this.1, this.2⟩
theorem ok_split {a b : B} (h : ok (a ++ 47 :: b) = true) : ok a = true ∧ ok b = true := ok_sp b a.length a (Nat.le_refl _) h
theorem ok_els : ∀ (n : Nat) (l : B), l.length ≤ n → ok l = true → ∀ e ∈ els l, ok e = true
  | n, l, hn, h => by
    rw [els_cut]
    cases hc : (cut 47 l).2.2
    · simp only [Bool.false_eq_true, if_false]
      intro e he
      rw [List.mem_singleton.1 he]
      exact h
    · simp only [if_true]
      have hl := cut_found 47 l hc
      rw [hl] at h
      obtain ⟨h1, h2⟩ := ok_split h
      have hlen := congrArg List.length hl
      rw [List.length_append, List.length_cons] at hlen
      intro e he
      rcases List.mem_cons.1 he with rfl | he
      · exact h1
      · match n, hn with
        | 0, hn => omega
        | n + 1, hn => exact ok_els n _ (by omega) h2 e he

theorem lastI_split (c : UInt8) : ∀ (l : B), 0 ≤ lastI c l → ∃ b, l = l.take (lastI c l).toNat ++ c :: b
  | [], h => by simp [lastI] at h
  | x :: r, h => by
    unfold lastI at h ⊢
    by_cases h1 : 0 ≤ lastI c r
    · rw [if_pos h1]
      obtain ⟨b, hb⟩ := lastI_split c r h1
      refine ⟨b, ?_⟩
      rw [show (lastI c r + 1).toNat = (lastI c r).toNat + 1 by omega, List.take_succ_cons, List.cons_append, ← hb]
    · rw [if_neg h1] at h ⊢
      by_cases h2 : x = c
      · rw [if_pos h2]
        exact ⟨r, by simp [h2]⟩
      · rw [if_neg h2] at h
        omega

/-- What is written has right escapes and begins with a slash. -/
def Wr (o : B) : Prop := ∃ t, o = 47 :: t ∧ ok t = true
theorem Wr.ok {o : B} (h : Wr o) : U.ok o = true := by
  obtain ⟨t, rfl, h⟩ := h
  rw [ok_cons (by decide)]
  exact h
theorem Wr.app {o e : B} (h : Wr o) (he : U.ok e = true) : Wr (o ++ e) := by
  obtain ⟨t, rfl, h⟩ := h
  exact ⟨t ++ e, rfl, ok_append h he⟩
theorem ok_slash : ok [47] = true := rfl
theorem Wr.step {o e : B} {f : Bool} (h : Wr o) (he : U.ok e = true) : Wr (jStep (o, f) e).1 := by
  unfold jStep
  split
  · exact h
  · split
    · split
      · rename_i hp
        obtain ⟨t, rfl, h⟩ := h
        simp only [List.drop_succ_cons, List.drop_zero] at hp ⊢
        obtain ⟨b, hb⟩ := lastI_split 47 t (by omega)
        rw [hb] at h
        refine ⟨t.take (lastI 47 t).toNat, ?_, (ok_split h).1⟩
        rw [Nat.add_comm, List.take_succ_cons]
      · exact ⟨[], rfl, rfl⟩
    · cases f
      · exact (h.app ok_slash).app he
      · exact h.app he
theorem Wr.fold : ∀ (es : List B) (st : B × Bool), Wr st.1 → (∀ e ∈ es, U.ok e = true) → Wr (es.foldl jStep st).1
  | [], _, h, _ => h
  | e :: es, (_, _), h, he => Wr.fold es _ (h.step (he e (List.mem_cons_self ..))) (fun x hx => he x (List.mem_cons_of_mem _ hx))
theorem jEnd_ok {o e : B} (h : Wr o) : ok (jEnd o e) = true := by
  have h1 : Wr (jEnd1 o e) := by
    unfold jEnd1
    split
    · exact h.app ok_slash
    · exact h
  unfold jEnd
  split
  · obtain ⟨t, ht, h2⟩ := h1
    rw [ht]
    exact h2
  · exact h1.ok
theorem take_last_ok {b : B} (h : ok b = true) : ok (b.take (lastI 47 b + 1).toNat) = true := by
  have := lastI_ge 47 b
  by_cases h0 : 0 ≤ lastI 47 b
  · obtain ⟨r, hr⟩ := lastI_split 47 b h0
    have h1 := h
    rw [hr] at h1
    have e : b.take (lastI 47 b + 1).toNat = b.take (lastI 47 b).toNat ++ [47] := by
      have hlt := lastI_lt 47 b
      obtain ⟨n, hn⟩ : ∃ n : Nat, lastI 47 b = n := ⟨(lastI 47 b).toNat, by omega⟩
      rw [hn] at hr hlt ⊢
      rw [show ((n : Int) + 1).toNat = n + 1 by omega, Int.toNat_natCast, take_at b n (by omega)]
      congr 2
      have h2 : (b.take (n : Int).toNat ++ 47 :: r)[n]? = some 47 := by
        rw [List.getElem?_append_right (by rw [List.length_take]; omega), List.length_take, Int.toNat_natCast, Nat.min_eq_left (by omega), Nat.sub_self]
        rfl
      rw [← hr] at h2
      exact (List.getElem?_eq_some_iff.1 h2).2
    rw [e]
    exact ok_append (ok_split h1).1 ok_slash
  · rw [show (lastI 47 b + 1).toNat = 0 by omega]
    rfl
theorem jFull_ok {b r : B} (hb : ok b = true) (hr : ok r = true) : ok (jFull b r) = true := by
  unfold jFull
  split
  · exact hb
  · split
    · exact ok_append (take_last_ok hb) hr
    · exact hr
theorem joined_ok {b r : B} (hb : ok b = true) (hr : ok r = true) : ok (joined b r) = true := by
  unfold joined
  split
  · rfl
  · exact jEnd_ok (Wr.fold _ _ ⟨[], rfl, rfl⟩ (ok_els _ _ (Nat.le_refl _) (jFull_ok hb hr)))
theorem esc1_ok (c : UInt8) : ok (esc1 0 c) = true := by
  have h : ∀ n, n < 256 → ok (esc1 0 (UInt8.ofNat n)) = true := by decide +kernel
  have := h c.toNat c.toNat_lt
  rwa [show UInt8.ofNat c.toNat = c by simp] at this
theorem esc_ok : ∀ l : B, ok (esc 0 l) = true
  | [] => rfl
  | c :: l => ok_append (esc1_ok c) (esc_ok l)
theorem escPath_ok (v : V) : ok (escPath v) = true := by
  unfold escPath
  split
  · rename_i h
    simp only [kept?, Bool.and_eq_true, beq_iff_eq] at h
    unfold ok
    rw [h.2]
    rfl
  · split
    · rename_i h; rw [h] at *; rfl
    · exact esc_ok _
end U
end Go.Proofs.YtphkohpphdcjhaaGreatDoor
namespace Go.Proofs.YtphkohpphdcjhaaGreatDoor
open U (L S)
namespace U
theorem unesc_len3 (w : Nat) : ∀ (n : Nat) (l r : B), l.length ≤ n → unesc w l = some r → l.length ≤ 3 * r.length
  | _, [], _, _, _ => by simp
  | 0, _ :: _, _, hn, _ => by simp at hn
  | n + 1, c :: l, r, hn, h => by
    unfold unesc at h
    by_cases h37 : c.toNat = 37
    · rw [if_pos h37] at h
      match l, hn, h with
      | [], _, h => exact absurd h (by simp)
      | [_], _, h => exact absurd h (by simp)
      | a :: b :: l, hn, h =>
        simp only at h
        by_cases h1 : hexv a < 0 ∨ hexv b < 0
        · rw [if_pos h1] at h
          exact absurd h (by simp)
        · rw [if_neg h1] at h
          by_cases h2 : escapes w (hexv a * 16 + hexv b) = true
          · rw [if_pos h2] at h
            obtain ⟨q, hq, rfl⟩ := Option.map_eq_some_iff.1 h
            have := unesc_len3 w n l q (by simp at hn; omega) hq
            simp
            omega
          · rw [if_neg h2] at h
            exact absurd h (by simp)
    · rw [if_neg h37] at h
      by_cases h2 : stands w c = true
      · rw [if_pos h2] at h
        obtain ⟨q, hq, rfl⟩ := Option.map_eq_some_iff.1 h
        have := unesc_len3 w n l q (by simp at hn; omega) hq
        simp
        omega
      · rw [if_neg h2] at h
        exact absurd h (by simp)
theorem kept_len {w : Nat} {raw text : B} (h : kept? w raw text = true) : raw.length ≤ 3 * text.length := by
  simp only [kept?, Bool.and_eq_true, beq_iff_eq] at h
  exact unesc_len3 w _ _ _ (Nat.le_refl _) h.2
theorem escPath_len (v : V) : (escPath v).length ≤ 3 * (L v.path).length := by
  unfold escPath
  split
  · rename_i h
    exact kept_len h
  · split
    · rename_i h
      rw [h]
      decide
    · exact esc_len _ _
theorem escFrag_len (v : V) : (escFrag v).length ≤ 3 * (L v.fragment).length := by
  unfold escFrag
  split
  · rename_i h
    exact kept_len h
  · exact esc_len _ _
/-- The parts' lengths together. -/
def sum (v : V) : Nat := (L v.scheme).length + (L v.opq).length + (L v.user).length + (L v.pass).length + (L v.host).length + (L v.path).length + (L v.rawQuery).length
theorem front_len (v : V) : (front v).length ≤ 3 * ((L v.scheme).length + (L v.user).length + (L v.pass).length + (L v.host).length) + 5 := by
  have h1 := esc_len 1 (L v.user)
  have h2 := esc_len 1 (L v.pass)
  have h3 := esc_len 2 (L v.host)
  have hu : (userText v).length ≤ 3 * (L v.user).length + 3 * (L v.pass).length + 1 := by
    unfold userText
    split <;> simp <;> omega
  have a1 : (if L v.scheme = [] then [] else L v.scheme ++ [58] : B).length ≤ (L v.scheme).length + 1 := by split <;> simp
  have a2 : (if L v.host ≠ [] ∨ L v.path ≠ [] ∨ v.hasUser = true then [47, 47] else [] : B).length ≤ 2 := by split <;> simp
  have a3 : (if v.hasUser then userText v ++ [64] else [] : B).length ≤ 3 * (L v.user).length + 3 * (L v.pass).length + 2 := by split <;> simp <;> omega
  have a4 : ∀ (c : Prop) [Decidable c] (x y z : B), (if c then x ++ y ++ z else [] : B).length ≤ x.length + y.length + z.length := by
    intro c _ x y z
    split
    · simp only [List.length_append]
      exact Nat.le_refl _
    · exact Nat.zero_le _
  unfold front
  rw [List.length_append]
  refine Nat.le_trans (Nat.add_le_add a1 (a4 _ _ _ _)) ?_
  omega
theorem mid_len (v : V) : (midText v).length ≤ 3 * ((L v.scheme).length + (L v.user).length + (L v.pass).length + (L v.host).length + (L v.path).length) + 11 := by
  have h1 := front_len v
  have h2 := escPath_len v
  have a1 : ∀ c : Prop, [Decidable c] → (if c then [47] else [] : B).length ≤ 1 := by intro c _; split <;> simp
  have a2 : ∀ (c : Prop) [Decidable c] (x : B), (if c then [46, 47] else x : B).length ≤ x.length + 2 := by intro c _ x; split <;> simp
  have a3 : ∀ (c : Prop) [Decidable c], (if c then [37, 50, 70] ++ (escPath v).drop 1 else escPath v : B).length ≤ (escPath v).length + 3 := by intro c _; split <;> simp
  have b1 := a1 (escPath v ≠ [] ∧ (escPath v).head? ≠ some 47 ∧ L v.host ≠ [])
  have b2 := a2 (front v ++ (if escPath v ≠ [] ∧ (escPath v).head? ≠ some 47 ∧ L v.host ≠ [] then [47] else []) = [] ∧ among 58 (cut 47 (escPath v)).1 = true) (front v ++ (if escPath v ≠ [] ∧ (escPath v).head? ≠ some 47 ∧ L v.host ≠ [] then [47] else []))
  have b3 := a3 (bare v = true ∧ (escPath v).take 2 = [47, 47])
  rw [List.length_append] at b2
  show (_ ++ _ : B).length ≤ _
  rw [List.length_append]
  omega
theorem text_len (v : V) : (text v).length ≤ 3 * (sum v + (L v.fragment).length) + 20 := by
  have h1 := mid_len v
  have h2 := escFrag_len v
  have t : (tail v).length ≤ (L v.rawQuery).length + 3 * (L v.fragment).length + 2 := by
    unfold tail
    rw [List.length_append]
    have a1 : (if v.forceQuery = true ∨ L v.rawQuery ≠ [] then 63 :: L v.rawQuery else [] : B).length ≤ (L v.rawQuery).length + 1 := by split <;> simp
    have a2 : (if L v.fragment ≠ [] then 35 :: escFrag v else [] : B).length ≤ 3 * (L v.fragment).length + 1 := by split <;> simp; omega
    omega
  unfold text sum
  rw [List.length_append]
  split
  · have a1 : (if L v.scheme = [] then [] else L v.scheme ++ [58] : B).length ≤ (L v.scheme).length + 1 := by split <;> simp
    rw [List.length_append]
    omega
  · omega

theorem cut_sum (c : UInt8) (l : B) : (cut c l).1.length + (cut c l).2.1.length ≤ l.length := by
  simp only [cut, List.length_take, List.length_drop]
  omega
theorem sch_sum (l : B) : ∀ (r : B) (i : Nat), (sch l r i).1.length + (sch l r i).2.1.length ≤ l.length
  | [], i => by simp [sch]
  | c :: r, i => by
    have ih := sch_sum l r (i + 1)
    unfold sch
    split
    · exact ih
    · split
      · split
        · simp
        · exact ih
      · split
        · simp only [List.length_take, List.length_drop]
          omega
        · simp
theorem unesc_le {w : Nat} {l r : B} (h : unesc w l = some r) : r.length ≤ l.length := unesc_len w _ _ _ (Nat.le_refl _) h
/-- What an authority holds is no longer than it. -/
def whoLen : Option (B × B × Bool) → Nat
  | none => 0
  | some (n, p, _) => n.length + p.length
theorem auth_sum {l h : B} {who : Option (B × B × Bool)} (e : authority l = some (some (h, who))) : h.length + whoLen who ≤ l.length := by
  have a0 := lastI_ge 64 l
  have a1 := lastI_lt 64 l
  unfold authority at e
  simp only at e
  split at e
  · exact absurd e (by simp)
  · split at e
    · exact absurd e (by simp)
    · split at e
      · exact absurd e (by simp)
      · split at e
        · exact absurd e (by simp)
        · rename_i hh heq
          have h1 := unesc_le heq
          rw [List.length_drop] at h1
          split at e
          · simp only [Option.some.injEq, Prod.mk.injEq] at e
            obtain ⟨rfl, rfl⟩ := e
            simp only [whoLen]
            omega
          · split at e
            · exact absurd e (by simp)
            · split at e
              · rename_i n p hn hp
                simp only [Option.some.injEq, Prod.mk.injEq] at e
                obtain ⟨rfl, rfl⟩ := e
                have h2 := unesc_le hn
                have h3 := unesc_le hp
                have h4 := cut_sum 58 (l.take (lastI 64 l).toNat)
                rw [List.length_take] at h4
                simp only [whoLen]
                omega
              · exact absurd e (by simp)
theorem setPath_sum (v : V) (s : ByteArray) (h : L v.path = []) : sum (setPath v s).1 ≤ sum v + s.size := by
  have : ((unesc 0 (L s)).getD []).length ≤ s.size := by
    rw [← len_L]
    cases e : unesc 0 (L s) with
    | none => simp
    | some r => exact unesc_le e
  simp only [setPath, sum, L_S, h, List.length_nil]
  omega
theorem fin_eq {u v : V} {s : ByteArray} (e : some (if (setPath u s).2 = true then some (setPath u s).1 else none) = some (some v)) : v = (setPath u s).1 := by
  by_cases h : (setPath u s).2 = true
  · rw [if_pos h] at e
    exact (Option.some.inj (Option.some.inj e)).symm
  · rw [if_neg h] at e
    exact absurd e (by simp)
theorem rest_sum {u v : V} {r : B} {q : Bool} (hu : L u.path = [] ∧ L u.user = [] ∧ L u.pass = [] ∧ L u.host = []) (e : rest u r q = some (some v)) : sum v ≤ sum u + r.length := by
  simp only [rest] at e
  by_cases hc : (L u.scheme ≠ [] ∨ q = false ∧ r.take 3 ≠ [47, 47, 47]) ∧ r.take 2 = [47, 47]
  · rw [if_pos hc] at e
    split at e
    · exact absurd e (by simp)
    · exact absurd e (by simp)
    · rename_i h who ha
      have h1 := auth_sum ha
      have e' := fin_eq e
      subst e'
      refine Nat.le_trans (setPath_sum _ _ hu.1) ?_
      have hl : (cut 47 (r.drop 2)).1.length ≤ (r.drop 2).length := cut_len1 _ _
      have hw : ((who.map (·.1)).getD []).length + ((who.map (·.2.1)).getD []).length = whoLen who := by
        cases who with
        | none => rfl
        | some x => obtain ⟨n, p, f⟩ := x; rfl
      simp only [sum, L_S, hu, List.length_nil, size_S, List.length_drop] at hl ⊢
      omega
  · rw [if_neg hc] at e
    have e' := fin_eq e
    subst e'
    have : ∀ (c : Prop) [Decidable c], L (if c then { u with omitHost := true } else u : V).path = [] ∧ sum (if c then { u with omitHost := true } else u : V) = sum u := by
      intro c _
      split
      · exact ⟨hu.1, rfl⟩
      · exact ⟨hu.1, rfl⟩
    refine Nat.le_trans (setPath_sum _ _ (this _).1) ?_
    rw [(this _).2, size_S]
    exact Nat.le_refl _
theorem rest_frag {u v : V} {r : B} {q : Bool} (hu : L u.fragment = []) (e : rest u r q = some (some v)) : L v.fragment = [] := by
  simp only [rest] at e
  by_cases hc : (L u.scheme ≠ [] ∨ q = false ∧ r.take 3 ≠ [47, 47, 47]) ∧ r.take 2 = [47, 47]
  · rw [if_pos hc] at e
    split at e
    · exact absurd e (by simp)
    · exact absurd e (by simp)
    · have e' := fin_eq e
      subst e'
      exact hu
  · rw [if_neg hc] at e
    have e' := fin_eq e
    subst e'
    simp only [setPath]
    split <;> exact hu
theorem lower_len (l : B) : (lower l).length = l.length := by simp [lower]
/-- What parts hands to rest. -/
def restOf (l : B) : V := { V.zero with scheme := S (lower (scheme l).1), forceQuery := (cut 63 (scheme l).2.1).2.2 && (cut 63 (scheme l).2.1).2.1.isEmpty, rawQuery := S (cut 63 (scheme l).2.1).2.1 }
theorem parts_ways {l : B} {q : Bool} {v : V} (e : parts l q = some (some v)) :
    rest (restOf l) (cut 63 (scheme l).2.1).1 q = some (some v) ∨ v = { restOf l with opq := S (cut 63 (scheme l).2.1).1 } := by
  simp only [parts] at e
  split at e
  · exact absurd e (by simp)
  · split at e
    · split at e
      · exact .inr (Option.some.inj (Option.some.inj e)).symm
      · split at e
        · exact absurd e (by simp)
        · exact .inl e
    · exact .inl e
theorem parts_sum {l : B} {q : Bool} {v : V} (e : parts l q = some (some v)) : sum v ≤ l.length := by
  have h1 : (scheme l).1.length + (scheme l).2.1.length ≤ l.length := sch_sum l l 0
  have h2 := cut_sum 63 (scheme l).2.1
  have h3 := lower_len (scheme l).1
  have hz : sum (restOf l) = (scheme l).1.length + (cut 63 (scheme l).2.1).2.1.length := by
    show (lower (scheme l).1).length + 0 + 0 + 0 + 0 + 0 + (cut 63 (scheme l).2.1).2.1.length = _
    omega
  rcases parts_ways e with h | rfl
  · have := rest_sum ⟨rfl, rfl, rfl, rfl⟩ h
    omega
  · show (lower (scheme l).1).length + (cut 63 (scheme l).2.1).1.length + 0 + 0 + 0 + 0 + (cut 63 (scheme l).2.1).2.1.length ≤ _
    omega
theorem parse1_ways {l : B} {q : Bool} {v : V} (e : parse1 l q = some (some v)) : (l = [42] ∧ v = { V.zero with path := S [42] }) ∨ parts l q = some (some v) := by
  unfold parse1 at e
  split at e
  · exact absurd e (by simp)
  · split at e
    · exact absurd e (by simp)
    · split at e
      · rename_i h
        exact .inl ⟨h, (Option.some.inj (Option.some.inj e)).symm⟩
      · exact .inr e
theorem parse1_sum {l : B} {q : Bool} {v : V} (e : parse1 l q = some (some v)) : sum v ≤ l.length := by
  rcases parse1_ways e with ⟨rfl, rfl⟩ | e
  · decide
  · exact parts_sum e
theorem parse1_frag {l : B} {q : Bool} {v : V} (e : parse1 l q = some (some v)) : L v.fragment = [] := by
  rcases parse1_ways e with ⟨rfl, rfl⟩ | e
  · rfl
  · rcases parts_ways e with e | rfl
    · exact rest_frag rfl e
    · rfl
/-- Where the fragment is cut off. -/
def fcut (l : B) (q : Bool) : B × B × Bool := if q then (l, [], false) else cut 35 l
theorem parse_ways {l : B} {q : Bool} {v : V} (e : parse l q = some (some v)) :
    ∃ u, parse1 (fcut l q).1 q = some (some u) ∧ (v = u ∨ ∃ f, unesc 3 (fcut l q).2.1 = some f ∧ v = { u with fragment := S f, rawFragment := if esc 3 f = (fcut l q).2.1 then E else S (fcut l q).2.1 }) := by
  have h0 : parse l q = match parse1 (fcut l q).1 q with
    | none => none
    | some none => some none
    | some (some v) =>
      if (fcut l q).2.1.isEmpty then some (some v)
      else match unesc 3 (fcut l q).2.1 with
        | none => some none
        | some f => some (some { v with fragment := S f, rawFragment := if esc 3 f = (fcut l q).2.1 then E else S (fcut l q).2.1 }) := rfl
  rw [h0] at e
  generalize fcut l q = c at e ⊢
  cases h : parse1 c.1 q with
  | none => rw [h] at e; exact absurd e (by simp)
  | some x =>
    cases x with
    | none => rw [h] at e; exact absurd e (by simp)
    | some u =>
      rw [h] at e
      refine ⟨u, rfl, ?_⟩
      simp only at e
      cases hc : c.2.1.isEmpty
      · rw [hc, if_neg (by decide)] at e
        cases hf : unesc 3 c.2.1 with
        | none => rw [hf] at e; exact absurd e (by simp)
        | some f =>
          rw [hf] at e
          exact .inr ⟨f, rfl, (Option.some.inj (Option.some.inj e)).symm⟩
      · rw [hc, if_pos rfl] at e
        exact .inl (Option.some.inj (Option.some.inj e)).symm
theorem parse_sum {l : B} {q : Bool} {v : V} (e : parse l q = some (some v)) : sum v + (L v.fragment).length ≤ l.length := by
  have hc : (fcut l q).1.length + (fcut l q).2.1.length ≤ l.length := by
    unfold fcut
    cases q
    · exact cut_sum _ _
    · simp
  obtain ⟨u, hu, h⟩ := parse_ways e
  have h1 := parse1_sum hu
  have h2 := parse1_frag hu
  rcases h with rfl | ⟨f, hf, rfl⟩
  · rw [h2]
    simp only [List.length_nil]
    omega
  · have h3 := unesc_le hf
    show sum u + f.length ≤ _
    omega
theorem parse_text_len {l : B} {q : Bool} {v : V} (e : parse l q = some (some v)) : (text v).length ≤ 3 * l.length + 20 := by
  have := parse_sum e
  have := text_len v
  omega

/-! ### Users with their truths alone; the parts as they were read -/
def fairWho (who : Option (B × B × Bool)) : Prop := ∀ n p, who = some (n, p, false) → p = []
theorem auth_fair {l h : B} {who : Option (B × B × Bool)} (e : authority l = some (some (h, who))) : fairWho who := by
  intro n p hw
  unfold authority at e
  simp only at e
  split at e
  · exact absurd e (by simp)
  · split at e
    · exact absurd e (by simp)
    · split at e
      · exact absurd e (by simp)
      · split at e
        · exact absurd e (by simp)
        · split at e
          · simp only [Option.some.injEq, Prod.mk.injEq] at e
            rw [hw] at e
            exact absurd e.2 (by simp)
          · split at e
            · exact absurd e (by simp)
            · split at e
              · rename_i n' p' hn hp
                simp only [Option.some.injEq, Prod.mk.injEq] at e
                rw [hw] at e
                simp only [Option.some.injEq, Prod.mk.injEq] at e
                obtain ⟨_, rfl, rfl, hf⟩ := e
                have h0 : (cut 58 (l.take (lastI 64 l).toNat)).2.1 = [] := by
                  have := of_decide_eq_false hf
                  exact List.drop_eq_nil_of_le (by omega)
                rw [h0] at hp
                simpa [unesc] using hp.symm
              · exact absurd e (by simp)
theorem setPath_fair {v : V} (h : v.fair) (s : ByteArray) : (setPath v s).1.fair := h
theorem rest_fair {u v : V} {r : B} {q : Bool} (hu : u.fair) (e : rest u r q = some (some v)) : v.fair := by
  simp only [rest] at e
  by_cases hc : (L u.scheme ≠ [] ∨ q = false ∧ r.take 3 ≠ [47, 47, 47]) ∧ r.take 2 = [47, 47]
  · rw [if_pos hc] at e
    split at e
    · exact absurd e (by simp)
    · exact absurd e (by simp)
    · rename_i h who ha
      have h1 := auth_fair ha
      have e' := fin_eq e
      subst e'
      refine setPath_fair ?_ _
      cases who with
      | none => exact ⟨fun _ => ⟨rfl, rfl⟩, fun _ => rfl⟩
      | some x =>
        obtain ⟨n, p, f⟩ := x
        refine ⟨fun h => by simp at h, fun h => ?_⟩
        have hf : f = false := h
        subst hf
        exact h1 n p rfl
  · rw [if_neg hc] at e
    have e' := fin_eq e
    subst e'
    refine setPath_fair ?_ _
    split <;> exact hu
theorem parse_fair {l : B} {q : Bool} {v : V} (e : parse l q = some (some v)) : v.fair := by
  have hz : (restOf l).fair := ⟨fun _ => ⟨rfl, rfl⟩, fun _ => rfl⟩
  have key : ∀ {l : B} {u : V}, parse1 l q = some (some u) → u.fair := by
    intro l u h
    rcases parse1_ways h with ⟨rfl, rfl⟩ | h
    · exact ⟨fun _ => ⟨rfl, rfl⟩, fun _ => rfl⟩
    · rcases parts_ways h with h | rfl
      · exact rest_fair ⟨fun _ => ⟨rfl, rfl⟩, fun _ => rfl⟩ h
      · exact ⟨fun _ => ⟨rfl, rfl⟩, fun _ => rfl⟩
  obtain ⟨u, hu, h⟩ := parse_ways e
  have h2 : u.fair := key hu
  rcases h with rfl | ⟨f, _, rfl⟩
  · exact h2
  · exact h2
theorem setPath_raw (v : V) (s : ByteArray) : (L (setPath v s).1.rawPath).length ≤ s.size ∧ (setPath v s).1.rawFragment = v.rawFragment := by
  refine ⟨?_, rfl⟩
  simp only [setPath]
  split
  · exact Nat.zero_le _
  · rw [len_L]
    exact Nat.le_refl _
theorem rest_raw {u v : V} {r : B} {q : Bool} (e : rest u r q = some (some v)) : (L v.rawPath).length ≤ r.length ∧ v.rawFragment = u.rawFragment := by
  simp only [rest] at e
  by_cases hc : (L u.scheme ≠ [] ∨ q = false ∧ r.take 3 ≠ [47, 47, 47]) ∧ r.take 2 = [47, 47]
  · rw [if_pos hc] at e
    split at e
    · exact absurd e (by simp)
    · exact absurd e (by simp)
    · have e' := fin_eq e
      subst e'
      have h := fun v => setPath_raw v (S ((r.drop 2).drop (cut 47 (r.drop 2)).1.length))
      refine ⟨Nat.le_trans (h _).1 ?_, (h _).2⟩
      rw [size_S]
      simp only [List.length_drop]
      omega
  · rw [if_neg hc] at e
    have e' := fin_eq e
    subst e'
    have h := fun v => setPath_raw v (S r)
    refine ⟨Nat.le_trans (h _).1 (by rw [size_S]; exact Nat.le_refl _), (h _).2.trans ?_⟩
    split <;> rfl
theorem parse1_raw {l : B} {q : Bool} {v : V} (e : parse1 l q = some (some v)) : (L v.rawPath).length ≤ l.length ∧ L v.rawFragment = [] := by
  rcases parse1_ways e with ⟨rfl, rfl⟩ | e
  · exact ⟨by decide, rfl⟩
  · rcases parts_ways e with e | rfl
    · have h := rest_raw e
      have h1 : (scheme l).1.length + (scheme l).2.1.length ≤ l.length := sch_sum l l 0
      have h2 := cut_sum 63 (scheme l).2.1
      refine ⟨by omega, ?_⟩
      rw [h.2]
      rfl
    · exact ⟨Nat.zero_le _, rfl⟩
theorem parse_raw {l : B} {q : Bool} {v : V} (e : parse l q = some (some v)) : (L v.rawPath).length ≤ l.length ∧ (L v.rawFragment).length ≤ l.length := by
  have hc : (fcut l q).1.length + (fcut l q).2.1.length ≤ l.length := by
    unfold fcut
    cases q
    · exact cut_sum _ _
    · simp
  obtain ⟨u, hu, h⟩ := parse_ways e
  have h1 := parse1_raw hu
  rcases h with rfl | ⟨f, hf, rfl⟩
  · rw [h1.2]
    exact ⟨by omega, Nat.zero_le _⟩
  · refine ⟨by show (L u.rawPath).length ≤ _; omega, ?_⟩
    show (L (if _ then _ else _ : ByteArray)).length ≤ _
    split
    · exact Nat.zero_le _
    · rw [L_S]
      omega
end U
end Go.Proofs.YtphkohpphdcjhaaGreatDoor
namespace Go.Proofs.YtphkohpphdcjhaaGreatDoor
open U (L S)
namespace U
open Lib (Pa.cleanStep Pa.cleanEls)
/-- Over a path that begins with a slash no .. is kept. -/
def NoUp (st : List B) : Prop := ∀ x ∈ st, x ≠ [46, 46]
theorem step_same (st : List B) (e : B) (h : NoUp st) : (Lib.Pa.cleanStep true st e).reverse = cStep st.reverse e ∧ NoUp (Lib.Pa.cleanStep true st e) := by
  unfold Lib.Pa.cleanStep cStep
  by_cases h1 : e = [] ∨ e = [46]
  · rw [if_pos h1, if_pos h1]
    exact ⟨rfl, h⟩
  · rw [if_neg h1, if_neg h1]
    by_cases h2 : e = [46, 46]
    · rw [if_pos h2, if_pos h2]
      cases st with
      | nil => exact ⟨rfl, h⟩
      | cons x r =>
        have hx := h x (List.mem_cons_self ..)
        simp only [if_neg hx]
        exact ⟨by simp, fun y hy => h y (List.mem_cons_of_mem _ hy)⟩
    · rw [if_neg h2, if_neg h2]
      refine ⟨by simp, fun y hy => ?_⟩
      rcases List.mem_cons.1 hy with rfl | hy
      · exact h2
      · exact h y hy
theorem fold_same : ∀ (es : List B) (st : List B), NoUp st → (es.foldl (Lib.Pa.cleanStep true) st).reverse = es.foldl cStep st.reverse
  | [], _, _ => rfl
  | e :: es, st, h => by
    have := step_same st e h
    show (es.foldl _ (Lib.Pa.cleanStep true st e)).reverse = _
    rw [fold_same es _ this.2, this.1]
    rfl
theorem slashed_inter : ∀ (l : List B), l ≠ [] → slashed l = 47 :: ([47] : B).intercalate l
  | [], h => absurd rfl h
  | [e], _ => by simp [slashed, List.intercalate]
  | e :: f :: l, _ => by
    have ih := slashed_inter (f :: l) (by simp)
    show 47 :: e ++ slashed (f :: l) = _
    rw [ih]
    simp [List.intercalate, List.intersperse]
theorem slashed_nil (l : List B) : slashed l = [] ↔ l = [] := by
  cases l with
  | nil => simp [slashed]
  | cons e r => simp [slashed]
theorem clean_els (l : B) (h : l.head? = some 47) : Lib.Pa.cleanEls l = clean l := by
  have hne : l ≠ [] := by
    intro e
    rw [e] at h
    exact absurd h (by simp)
  rw [Lib.Pa.cleanEls_abs l hne (by rw [h]; rfl), fold_same _ _ (fun x hx => by simp at hx)]
  unfold clean
  by_cases h0 : (els l).foldl cStep [] = []
  · rw [if_pos ((slashed_nil _).2 h0)]
    show 47 :: ([47] : B).intercalate ((els l).foldl cStep []) = _
    rw [h0]
    rfl
  · rw [if_neg (fun e => h0 ((slashed_nil _).1 e)), slashed_inter _ h0]
    rfl
theorem clean_slash (l : B) : clean (47 :: l) = clean l := by
  have : els (47 :: l) = [] :: els l := by simp [els, Lib.Pa.els]
  unfold clean
  rw [this]
  rfl
theorem foldl_join : ∀ (list : List B) (b : B), b ≠ [] → list.foldl Lib.Pa.joinStep b = list.foldl (fun a e => a ++ 47 :: e) b ∧ list.foldl (fun a e => a ++ 47 :: e) b ≠ [] ∧ (list.foldl (fun a e => a ++ 47 :: e) b).head? = b.head?
  | [], _, h => ⟨rfl, h, rfl⟩
  | e :: list, b, h => by
    have hb : b ++ 47 :: e ≠ [] := by simp
    have ih := foldl_join list (b ++ 47 :: e) hb
    have e1 : Lib.Pa.joinStep b e = b ++ 47 :: e := if_neg h
    refine ⟨?_, ih.2.1, ?_⟩
    · show list.foldl _ (Lib.Pa.joinStep b e) = _
      rw [e1]
      exact ih.1
    · show (list.foldl _ (b ++ 47 :: e)).head? = _
      rw [ih.2.2]
      cases b with
      | nil => exact absurd rfl h
      | cons x r => rfl
theorem joinL_one (b : B) (list : List B) (h : b.head? = some 47) : Lib.Pa.joinL (b :: list) = clean (list.foldl (fun a e => a ++ 47 :: e) b) := by
  have hne : b ≠ [] := by
    intro e
    rw [e] at h
    exact absurd h (by simp)
  have hj := foldl_join list b hne
  have e1 : Lib.Pa.joinBuf (b :: list) = list.foldl (fun a e => a ++ 47 :: e) b := by
    show list.foldl Lib.Pa.joinStep (Lib.Pa.joinStep [] b) = _
    rw [show Lib.Pa.joinStep [] b = b from if_pos rfl]
    exact hj.1
  unfold Lib.Pa.joinL
  rw [e1, if_neg hj.2.1, Lib.Pa.clean_eq_cleanEls, clean_els _ (hj.2.2.trans h)]
theorem foldl_slash : ∀ (list : List B) (b : B), list.foldl (fun a e => a ++ 47 :: e) (47 :: b) = 47 :: list.foldl (fun a e => a ++ 47 :: e) b
  | [], _ => rfl
  | e :: list, b => foldl_slash list (b ++ 47 :: e)
/-- A path that begins with a slash. -/
theorem joinL_far (first : B) (list : List B) (h : first.head? = some 47) : Lib.Pa.joinL (first :: list) = clean (joinAll first list) := by
  rw [joinL_one _ _ h, joinAll, foldl_slash, clean_slash]
/-- One that doesn't. -/
theorem joinL_near (first : B) (list : List B) : Lib.Pa.joinL ((47 :: first) :: list) = clean (joinAll first list) := joinL_one _ _ rfl
end U
end Go.Proofs.YtphkohpphdcjhaaGreatDoor
