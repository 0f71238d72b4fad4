/- Writing into a builder; a user's text in the package. -/
import Derived.Test.YtphkohpphdcjhaaGreatDoorTK11
import Derived.Test.YtphkohpphdcjhaaGreatDoorTK13
namespace Go.Proofs.YtphkohpphdcjhaaGreatDoor
open Go.RowKit Go.Proofs.YtphkohpphdcjhaaGreatDoorW.PrintWords
open U (L S)

/-- The builder that the call made holds acc; nothing of W has changed. -/
structure Bu (W : World) (acc : U.B) (w : World) : Prop where
  it : Lib.IsBuilder 92 5 W.heap.size W.heap.size (Lib.byteCells acc) w
  below : Below W.heap.size W w
theorem ownsRow_keep {B : Nat} {e : TypeId} {k : Nat} {v : Value} {n : Nat} {xs : List Value} {w w' : World} (h : w.ownsRow B e k v n xs) (hb : Below w.heap.size w w') : w'.ownsRow B e k v n xs :=
  h.kept (row := none) ⟨hb.os, hb.tape, hb.output, hb.size, fun j hj _ => hb.block j hj⟩ (by cases hv : v.ownBlock <;> simp)
theorem builderAt_keep {T e : TypeId} {B b : Nat} {p : Value} {bs : List Value} {w w' : World} (h : Lib.BuilderAt T e B b p bs w) (hb : Below w.heap.size w w') : Lib.BuilderAt T e B b p bs w' := by
  obtain ⟨h1, v, h2, h3, h4⟩ := h
  exact ⟨h1, v, (hb.block b (heap_lt h2)).trans h2, ownsRow_keep h3 hb, h4⟩
theorem Bu.keep {W : World} {acc : U.B} {w w' : World} (h : Bu W acc w) (hb : Below w.heap.size w w') : Bu W acc w' :=
  ⟨h.it.imp (fun h => builderAt_keep h hb) (fun h => builderAt_keep h hb), h.below.trans (hb.mono h.below.size)⟩
theorem Bu.byte {W : World} {acc : U.B} {w : World} (h : Bu W acc w) (hl : acc.length ≤ 10000000000) (d : UInt8) (c : Int) (hc : c = d.toNat) :
    Calls Tryz.prog 78 #[.pointer (some ⟨W.heap.size, 0, none⟩), .int .u8 c] w fun e w' => e = .returned .nilIface ∧ Bu W (acc ++ [d]) w' :=
  (wbyte _ _ acc c d w W h.it hl h.below (Nat.le_refl _) hc).mono fun _ _ ⟨he, h1, h2⟩ => ⟨he, h1, h2⟩
theorem Bu.str {W : World} {acc : U.B} {w : World} (h : Bu W acc w) (hl : acc.length ≤ 10000000000) (s : ByteArray) (hs : Sm s) :
    Calls Tryz.prog 77 #[.pointer (some ⟨W.heap.size, 0, none⟩), .string s] w fun e w' => e = .returned (.tuple #[.int .i64 s.size, .nilIface]) ∧ Bu W (acc ++ L s) w' :=
  (wstring _ _ acc s w W h.it hl hs h.below (Nat.le_refl _)).mono fun _ _ ⟨he, h1, h2⟩ => ⟨he, h1, h2⟩
theorem Bu.all {W : World} {acc : U.B} {w : World} (h : Bu W acc w) :
    Calls Tryz.prog 82 #[.pointer (some ⟨W.heap.size, 0, none⟩)] w fun e w' => e = .returned (.string (S acc)) ∧ Below W.heap.size W w' :=
  bstring _ _ acc w W h.it h.below (Nat.le_refl _)
theorem Bu.grow (W : World) (m : Nat) (n : Int) (hn0 : 0 ≤ n) (hn : n ≤ 281474976710656) :
    Calls Tryz.prog 76 #[.pointer (some ⟨W.heap.size, 0, none⟩), .int .i64 n] ((W.alloc (.cells #[.pointer none, .slice none 0 0] 92)).drewN m) fun e w' => e = .returned (.tuple #[]) ∧ Bu W [] w' :=
  (grow0 W.heap.size n (W.drewN m) hn0 hn rfl _ rfl).mono fun _ _ ⟨he, h1, h2⟩ => ⟨he, h1, (show Below W.heap.size W (W.drewN m) from ⟨rfl, rfl, rfl, Nat.le_refl _, fun _ _ => rfl⟩).trans (show Below W.heap.size (W.drewN m) _ from h2)⟩
theorem Bu.len {W : World} {acc : U.B} {w : World} (h : Bu W acc w) :
    Calls Tryz.prog 80 #[.pointer (some ⟨W.heap.size, 0, none⟩)] w fun e w' => e = .returned (.int .i64 acc.length) ∧ w' = w := by
  have := Tryz.Builder_Len _ _ _ w h.it
  rw [Lib.byteCells_length] at this
  exact this

set_option maxHeartbeats 1600000 in
theorem i_userText (W : World) (k : Nat) (v : V) (hT : Tab W) (hu : v.user.size ≤ 4000) (hp : v.pass.size ≤ 4000) (h : W.heap[k]? = some (.cells v.who 107 (0, 0))) :
    Calls Tryz.prog 79 #[.pointer (some ⟨k, 0, none⟩)] W fun e w' => e = .returned (.string (S (U.userText v))) ∧ Below W.heap.size W w' := by
  have HH := Lib.hid h
  have c0 : W.cell? ⟨k, 0, none⟩ = some (.string v.user) := cell_at h rfl
  obtain ⟨x, HX⟩ : ∃ x, Hid (S (U.esc 1 (L v.user)) = x) := ⟨S _, Lib.hid rfl⟩
  obtain ⟨y, HY⟩ : ∃ y, Hid (S (U.esc 1 (L v.pass)) = y) := ⟨S _, Lib.hid rfl⟩
  have hx : x.size ≤ 12000 := by rw [← HX.out, len_S]; exact Nat.le_trans (len_esc _ _) (by omega)
  have hy : y.size ≤ 12000 := by rw [← HY.out, len_S]; exact Nat.le_trans (len_esc _ _) (by omega)
  obtain ⟨b, HB⟩ : ∃ b, Hid (v.hasPass = b) := ⟨_, rfl⟩
  have HT := Lib.hid hT
  have HR : Hid (S (U.userText v) = if b = true then x ++ (⟨#[58]⟩ ++ y) else x) := by
    unfold U.userText
    rw [HB.out, ← HX.out, ← HY.out]
    refine Lib.hid ?_
    cases b
    · simp
    · simp only [U.app_S, U.L_S]
      rfl
  rw [HR.out]
  clear h hT
  go_enter Tryz.func79, Tryz.ntmps79
  go_wp2_with fail
  refine (i_escape v.user 1 _ W (Nat.le_trans hu (by decide)) HT.out rfl rfl).mono ?_
  rintro e w2 ⟨rfl, b2⟩
  rw [HX.out]
  have h2 := (b2.block k (heap_lt HH.out)).trans HH.out
  have c1 : w2.cell? ⟨k, 1, none⟩ = some (.string v.pass) := cell_at h2 rfl
  have c2 : w2.cell? ⟨k, 2, none⟩ = some (.bool v.hasPass) := cell_at h2 rfl
  rw [HB.out] at c2
  have B2 := Lib.hid b2
  have HT2 := Lib.hid (HT.out.below b2)
  clear b2 h2 c0
  cases b
  · go_wp2_with fail
    go_ret
    exact ⟨by simp, B2.out⟩
  · go_wp2_with fail
    refine (i_escape v.pass 1 _ w2 (Nat.le_trans hp (by decide)) HT2.out rfl rfl).mono ?_
    rintro e w3 ⟨rfl, b3⟩
    rw [HY.out]
    have B3 := Lib.hid (B2.out.trans (b3.mono B2.out.size))
    clear b3
    go_wp2_with fail
    go_ret
    exact ⟨by simp, B3.out⟩
end Go.Proofs.YtphkohpphdcjhaaGreatDoor
