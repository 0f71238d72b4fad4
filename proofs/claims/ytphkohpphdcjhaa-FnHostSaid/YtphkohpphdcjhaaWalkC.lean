/- The walks of splitHostPort, made, Hostname and Port at a host without brackets. -/
import Derived.Test.YtphkohpphdcjhaaWalkB
import Derived.Deep.QuietTactic
import Derived.BigQuiet
namespace Go.Proofs.Ytphkohpphdcjhaa
open Go.RowKit PFnHost Go.Proofs.YtphkohpphdcjhaaW.PrintWords

theorem below_n {B : Nat} {a w : World} (h : Below B a w) (n : Nat) : Below B a (w.drewN n) := h.trans ⟨rfl, rfl, rfl, Nat.le_refl _, fun _ _ => rfl⟩

set_option maxHeartbeats 400000 in
theorem split_a (s : ByteArray) (k i : Nat) (w : World) (hs : s.size ≤ 4611686018427387904) (hi : i < s.size) (HL : Hid (strings_LastIndexByte.f k s 58 = some (i : Int))) (HP : Hid (U.port (s.extract i s.size).data.toList = true))
    (HB : Hid (strings_HasPrefix.f (s.extract 0 i) ⟨#[91]⟩ = some false)) :
    Calls Try.prog 16 #[.string s] w fun e w' => e = .returned (.tuple #[.string (s.extract 0 i), .string (s.extract (i + 1) s.size)]) ∧ Below w.heap.size w w' := by
  go_enter Try.func16, Try.ntmps16
  go_wp2_with fail
  refine (strings_LastIndexByte.calls k s 58 (i : Int) _ HL.out).mono ?_
  rintro e w1 ⟨rfl, ⟨n, rfl⟩⟩
  go_wp2_with fail
  refine (vop_any _ _ true HP).mono ?_
  rintro e w2 ⟨rfl, hb⟩
  go_wp2_with fail
  go_quiet (fail)
  go_wp2_with fail
  refine (strings_HasPrefix.calls (s.extract 0 i) _ false _ HB.out).mono ?_
  rintro e w1 ⟨rfl, ⟨n, rfl⟩⟩
  go_wp2_with fail
  go_ret2
  exact ⟨rfl, below_n (Below.trans (below_n (Below.refl _ _) _) hb) _⟩

set_option maxHeartbeats 400000 in
theorem split_b (s : ByteArray) (k i : Nat) (w : World) (_hs : s.size ≤ 4611686018427387904) (hi : i < s.size) (HL : Hid (strings_LastIndexByte.f k s 58 = some (i : Int))) (HP : Hid (U.port (s.extract i s.size).data.toList = false))
    (HB : Hid (strings_HasPrefix.f s ⟨#[91]⟩ = some false)) :
    Calls Try.prog 16 #[.string s] w fun e w' => e = .returned (.tuple #[.string s, .string ⟨#[]⟩]) ∧ Below w.heap.size w w' := by
  go_enter Try.func16, Try.ntmps16
  go_wp2_with fail
  refine (strings_LastIndexByte.calls k s 58 (i : Int) _ HL.out).mono ?_
  rintro e w1 ⟨rfl, ⟨n, rfl⟩⟩
  go_wp2_with fail
  refine (vop_any _ _ false HP).mono ?_
  rintro e w2 ⟨rfl, hb⟩
  go_wp2_with fail
  refine (strings_HasPrefix.calls s _ false _ HB.out).mono ?_
  rintro e w1 ⟨rfl, ⟨n, rfl⟩⟩
  go_wp2_with fail
  go_ret2
  exact ⟨rfl, below_n (Below.trans (below_n (Below.refl _ _) _) hb) _⟩

set_option maxHeartbeats 400000 in
theorem split_c (s : ByteArray) (k : Nat) (w : World) (HL : Hid (strings_LastIndexByte.f k s 58 = some (-1)))
    (HB : Hid (strings_HasPrefix.f s ⟨#[91]⟩ = some false)) :
    Calls Try.prog 16 #[.string s] w fun e w' => e = .returned (.tuple #[.string s, .string ⟨#[]⟩]) ∧ Below w.heap.size w w' := by
  go_enter Try.func16, Try.ntmps16
  go_wp2_with fail
  refine (strings_LastIndexByte.calls k s 58 (-1) _ HL.out).mono ?_
  rintro e w1 ⟨rfl, ⟨n, rfl⟩⟩
  go_wp2_with fail
  refine (strings_HasPrefix.calls s _ false _ HB.out).mono ?_
  rintro e w1 ⟨rfl, ⟨n, rfl⟩⟩
  go_wp2_with fail
  go_ret2
  exact ⟨rfl, below_n (Below.refl _ _) _⟩

theorem split_any (s h p : ByteArray) (k : Nat) (w : World) (hs : s.size ≤ 4611686018427387904) (hk : s.size < k) (hb : noBr s) (H : spec_Parted.f k s = some (h, p)) :
    Calls Try.prog 16 #[.string s] w fun e w' => e = .returned (.tuple #[.string h, .string p]) ∧ Below w.heap.size w w' := by
  rcases parted_ways s h p k hs hk H with ⟨i, hi, h1, h2, rfl, rfl⟩ | ⟨i, hi, h1, h2, rfl, rfl⟩ | ⟨h1, rfl, rfl⟩
  · exact split_a s k i w hs hi h1 h2 (noBr_prefix (noBr_head hb i))
  · exact split_b _ k i w hs hi h1 h2 (noBr_prefix hb)
  · exact split_c _ k w h1 (noBr_prefix hb)

theorem bcell {W w1 : World} (hb : Below W.heap.size W w1) : (∀ b o, b < W.heap.size → w1.cell? ⟨b, o, none⟩ = W.cell? ⟨b, o, none⟩) ∧ (∀ b o, b < W.heap.size → w1.frozen? ⟨b, o, none⟩ = W.frozen? ⟨b, o, none⟩) :=
  ⟨fun b o h => hb.cell (p := ⟨b, o, none⟩) h, fun b o h => hb.frozen (p := ⟨b, o, none⟩) h⟩

/-- A URL of the package with a host and no user, in a block. -/
def HostAt (W : World) (g : Nat) (host : ByteArray) : Prop :=
  W.heap[g]? = some (.cells #[.string ⟨#[]⟩, .string ⟨#[]⟩, .pointer none, .string host, .string ⟨#[]⟩, .string ⟨#[]⟩, .string ⟨#[]⟩, .string ⟨#[]⟩, .string ⟨#[]⟩, .bool false, .bool false] 37 (0, 0))

theorem cell_at {w : World} {g o : Nat} {cs : Array Value} {t : TypeId} {v : Value} (h : w.heap[g]? = some (.cells cs t (0, 0))) (hv : cs[o]? = some v) : w.cell? ⟨g, o, none⟩ = some v := by simp [World.cell?, h, hv]
theorem heap_new (W : World) (o : Obj) (g : Nat) (h : g = W.heap.size) : (W.alloc o).heap[g]? = some o := by
  subst h
  show (W.heap.push o)[W.heap.size]? = _
  simp

/-- A URL of the thin package with a host alone. -/
abbrev hostOnly (host : ByteArray) : Value :=
  .agg #[.string ⟨#[]⟩, .string ⟨#[]⟩, .string ⟨#[]⟩, .string ⟨#[]⟩, .bool false, .bool false, .string host, .string ⟨#[]⟩, .string ⟨#[]⟩, .bool false, .bool false, .string ⟨#[]⟩, .string ⟨#[]⟩, .string ⟨#[]⟩]

set_option maxHeartbeats 400000 in
theorem made_host (host : ByteArray) (w : World) :
    Calls Try.prog 10 #[hostOnly host] w
      fun e w' => ∃ g, e = .returned (.pointer (some ⟨g, 0, none⟩)) ∧ HostAt w' g host ∧ Below w.heap.size w w' := by
  go_enter Try.func10, Try.ntmps10
  go_wp2_with fail
  go_ret
  exact ⟨_, rfl, heap_new _ _ _ (by simp), ((Below.refl _ _).alloc (Nat.le_refl _) _).alloc (by simp) _⟩

set_option maxHeartbeats 400000 in
theorem hostname_at (s h p : ByteArray) (k g : Nat) (w : World) (hs : s.size ≤ 4611686018427387904) (hk : s.size < k) (hb : noBr s) (H : Hid (spec_Parted.f k s = some (h, p))) (hg : HostAt w g s) :
    Calls Try.prog 11 #[.pointer (some ⟨g, 0, none⟩)] w fun e w' => e = .returned (.string h) ∧ Below w.heap.size w w' := by
  have hc := cell_at (o := 3) hg rfl
  have HG : Hid (HostAt w g s) := hg
  have HB : Hid (noBr s) := hb
  clear hg hb
  go_enter Try.func11, Try.ntmps11
  go_wp2_with fail
  refine (split_any s h p k _ hs hk HB.out H.out).mono ?_
  rintro e w1 ⟨rfl, hbl⟩
  go_wp2_with fail
  go_ret
  exact ⟨rfl, hbl⟩

set_option maxHeartbeats 400000 in
theorem port_at (s h p : ByteArray) (k g : Nat) (w : World) (hs : s.size ≤ 4611686018427387904) (hk : s.size < k) (hb : noBr s) (H : Hid (spec_Parted.f k s = some (h, p))) (hg : HostAt w g s) :
    Calls Try.prog 12 #[.pointer (some ⟨g, 0, none⟩)] w fun e w' => e = .returned (.string p) ∧ Below w.heap.size w w' := by
  have hc := cell_at (o := 3) hg rfl
  have HB : Hid (noBr s) := hb
  clear hg hb
  go_enter Try.func12, Try.ntmps12
  go_wp2_with fail
  refine (split_any s h p k _ hs hk HB.out H.out).mono ?_
  rintro e w1 ⟨rfl, hbl⟩
  go_wp2_with fail
  go_ret
  exact ⟨rfl, hbl⟩

theorem fits_host (s : ByteArray) (hs : s.size ≤ 4000) : impl_fits.f 20 ⟨#[]⟩ ⟨#[]⟩ ⟨#[]⟩ ⟨#[]⟩ false false s ⟨#[]⟩ ⟨#[]⟩ false false ⟨#[]⟩ ⟨#[]⟩ ⟨#[]⟩ = some true := by
  have : ¬ (4000 : Int) < s.size := by omega
  have e : (⟨#[]⟩ : ByteArray).size = 0 := rfl
  simp [impl_fits.f, impl_fits.l0, rdOf, wrap64, this, e]

set_option maxHeartbeats 400000 in
theorem implHostname (s h p : ByteArray) (k : Nat) (w : World) (hs : s.size ≤ 4000) (hk : s.size < k) (hb : noBr s) (H : Hid (spec_Parted.f k s = some (h, p))) :
    Calls Try.prog 5 #[hostOnly s] w fun e w' => e = .returned (.string h) ∧ Below w.heap.size w w' := by
  have HF : Hid (impl_fits.f 20 ⟨#[]⟩ ⟨#[]⟩ ⟨#[]⟩ ⟨#[]⟩ false false s ⟨#[]⟩ ⟨#[]⟩ false false ⟨#[]⟩ ⟨#[]⟩ ⟨#[]⟩ = some true) := fits_host s hs
  have HB : Hid (noBr s) := hb
  clear hb
  go_enter Try.func5, Try.ntmps5
  go_wp2_with fail
  refine (impl_fits.calls 20 _ _ _ _ _ _ _ _ _ _ _ _ _ _ true _ HF.out).mono ?_
  rintro e w1 ⟨rfl, b1⟩
  obtain ⟨hc, hf⟩ := bcell b1
  go_wp2_with fail
  refine (made_host s _).mono ?_
  rintro e w2 ⟨g, rfl, hg, b2⟩
  go_wp2_with fail
  refine (hostname_at s h p k g _ (by omega) hk HB.out H hg).mono ?_
  rintro e w3 ⟨rfl, b3⟩
  go_wp2_with fail
  go_ret
  exact ⟨rfl, ((((Below.refl _ _).alloc (Nat.le_refl _) _).trans (b1.mono (by simp))).trans (b2.mono (by have := b1.size; simp at this; omega))).trans (b3.mono (by have := b1.size; have := b2.size; simp at *; omega))⟩

set_option maxHeartbeats 400000 in
theorem implPort (s h p : ByteArray) (k : Nat) (w : World) (hs : s.size ≤ 4000) (hk : s.size < k) (hb : noBr s) (H : Hid (spec_Parted.f k s = some (h, p))) :
    Calls Try.prog 6 #[hostOnly s] w fun e w' => e = .returned (.string p) ∧ Below w.heap.size w w' := by
  have HF : Hid (impl_fits.f 20 ⟨#[]⟩ ⟨#[]⟩ ⟨#[]⟩ ⟨#[]⟩ false false s ⟨#[]⟩ ⟨#[]⟩ false false ⟨#[]⟩ ⟨#[]⟩ ⟨#[]⟩ = some true) := fits_host s hs
  have HB : Hid (noBr s) := hb
  clear hb
  go_enter Try.func6, Try.ntmps6
  go_wp2_with fail
  refine (impl_fits.calls 20 _ _ _ _ _ _ _ _ _ _ _ _ _ _ true _ HF.out).mono ?_
  rintro e w1 ⟨rfl, b1⟩
  obtain ⟨hc, hf⟩ := bcell b1
  go_wp2_with fail
  refine (made_host s _).mono ?_
  rintro e w2 ⟨g, rfl, hg, b2⟩
  go_wp2_with fail
  refine (port_at s h p k g _ (by omega) hk HB.out H hg).mono ?_
  rintro e w3 ⟨rfl, b3⟩
  go_wp2_with fail
  go_ret
  exact ⟨rfl, ((((Below.refl _ _).alloc (Nat.le_refl _) _).trans (b1.mono (by simp))).trans (b2.mono (by have := b1.size; simp at this; omega))).trans (b3.mono (by have := b1.size; have := b2.size; simp at *; omega))⟩
end Go.Proofs.Ytphkohpphdcjhaa
