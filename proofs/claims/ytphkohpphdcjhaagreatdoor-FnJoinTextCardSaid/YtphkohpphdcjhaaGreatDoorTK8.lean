/- Escapes; a reference in the package; its path and fragment. -/
import Derived.Test.YtphkohpphdcjhaaGreatDoorTK6
import Derived.Lib.SlBytesRow
import Derived.Lib.ConvBytes
import Derived.Laws.MakeOwn
import Derived.Deep.DeepCutAuto
import Derived.Deep.QuietTactic
import Derived.BigQuiet
import Derived.IntWalk
import Derived.Test.YtphkohpphdcjhaaGreatDoorTK7
namespace Go.Proofs.YtphkohpphdcjhaaGreatDoor
open Go.RowKit Go.Proofs.YtphkohpphdcjhaaGreatDoorW.PrintWords
open U (L S)

/-! ### What escapes cost -/
/-- How many bytes are written with an escape. -/
def hexn (w : Nat) (l : U.B) : Nat := (l.filter fun c => !U.free w c).length
theorem hexn_le (w : Nat) (l : U.B) : hexn w l ≤ l.length := List.length_filter_le _ _
theorem hexn_snoc (w : Nat) (s : ByteArray) (k : Nat) (h : k < s.size) : hexn w ((L s).take (k + 1)) = hexn w ((L s).take k) + if U.free w (s[k]'h) = true then 0 else 1 := by
  rw [U.take_at _ _ (by rw [U.len_L]; exact h)]
  unfold hexn
  rw [List.filter_append, List.length_append]
  show _ + (List.filter _ [s[k]'h]).length = _
  cases hf : U.free w (s[k]'h) <;> simp [hf]
theorem esc_append (w : Nat) (a b : U.B) : U.esc w (a ++ b) = U.esc w a ++ U.esc w b := by simp [U.esc]
theorem esc_size (w : Nat) : ∀ l : U.B, (U.esc w l).length = l.length + 2 * hexn w l
  | [] => rfl
  | c :: r => by
    have ih := esc_size w r
    have : U.esc w (c :: r) = U.esc1 w c ++ U.esc w r := rfl
    rw [this, List.length_append, ih]
    unfold hexn U.esc1
    cases hf : U.free w c <;> simp [hf] <;> omega
theorem esc_same (w : Nat) : ∀ l : U.B, hexn w l = 0 → U.esc w l = l
  | [], _ => rfl
  | c :: r, h => by
    unfold hexn at h
    cases hf : U.free w c
    · simp [hf] at h
    · have ih := esc_same w r (by unfold hexn; simpa [hf] using h)
      have : U.esc w (c :: r) = U.esc1 w c ++ U.esc w r := rfl
      rw [this, ih]
      simp [U.esc1, hf]
theorem esc_snoc (w : Nat) (s : ByteArray) (k : Nat) (h : k < s.size) : U.esc w ((L s).take (k + 1)) = U.esc w ((L s).take k) ++ U.esc1 w (s[k]'h) := by
  rw [U.take_at _ _ (by rw [U.len_L]; exact h), esc_append]
  show _ ++ U.esc w [s[k]'h] = _
  simp [U.esc]
theorem esc_upto (w : Nat) (s : ByteArray) (k : Nat) : (U.esc w ((L s).take k)).length ≤ (U.esc w (L s)).length := by
  conv => rhs; rw [← List.take_append_drop k (L s), esc_append, List.length_append]
  omega

/-! ### Blocks of bytes -/
/-- The text's bytes in a block. -/
def By (w : World) (b : Nat) (s : ByteArray) : Prop := ∀ i (h : i < s.size), w.cell? ⟨b, i, none⟩ = some (.int .u8 ((s[i]'h).toNat : Int))
/-- A block of n cells or more, of which the first hold the bytes. -/
def Buf (w : World) (g n : Nat) (acc : U.B) : Prop :=
  ∃ (cs : Array Value) (t : TypeId), w.heap[g]? = some (.cells cs t (0, 0)) ∧ n ≤ cs.size ∧ ∀ i (h : i < acc.length), cs[i]? = some (.int .u8 ((acc[i]'h).toNat : Int))
theorem Buf.cell {w : World} {g n : Nat} {acc : U.B} (h : Buf w g n acc) (i : Nat) (hi : i < n) : ∃ v, w.cell? ⟨g, i, none⟩ = some v := by
  obtain ⟨cs, t, h1, h2, _⟩ := h
  exact ⟨cs[i]'(by omega), by simp [World.cell?, h1, show i < cs.size by omega]⟩
theorem Buf.free {w : World} {g n : Nat} {acc : U.B} (h : Buf w g n acc) (i : Nat) : w.frozen? ⟨g, i, none⟩ = false := by
  obtain ⟨cs, t, h1, _⟩ := h
  simp [World.frozen?, h1]
theorem Buf.put {w : World} {g n : Nat} {acc : U.B} (h : Buf w g n acc) (hn : acc.length < n) (c : UInt8) (j : Nat) (x : Int) (hj : j = acc.length) (hx : x = (c.toNat : Int)) : Buf (w.setCell ⟨g, j, none⟩ (.int .u8 x)) g n (acc ++ [c]) := by
  subst hj hx
  obtain ⟨cs, t, h1, h2, h3⟩ := h
  refine ⟨cs.setIfInBounds acc.length (.int .u8 (c.toNat : Int)), t, by simp [World.setCell, Array.getElem?_modify, h1], by simpa using h2, fun i hi => ?_⟩
  rw [List.length_append, List.length_singleton] at hi
  rw [Array.getElem?_setIfInBounds]
  by_cases e : acc.length = i
  · subst e
    simp [show acc.length < cs.size by omega]
  · rw [if_neg e, h3 i (by omega)]
    congr 3
    simp [show i < acc.length by omega]
theorem Buf.below {w w' : World} {g n : Nat} {acc : U.B} (h : Buf w g n acc) (hb : Below w.heap.size w w') : Buf w' g n acc := by
  obtain ⟨cs, t, h1, h2⟩ := h
  exact ⟨cs, t, (hb.block g (heap_lt h1)).trans h1, h2⟩
theorem Buf.lt {w : World} {g n : Nat} {acc : U.B} (h : Buf w g n acc) : g < w.heap.size := by
  obtain ⟨cs, t, h1, _⟩ := h
  exact heap_lt h1
theorem By.set {w : World} {b : Nat} {s : ByteArray} (h : By w b s) {g : Nat} (hg : b ≠ g) (j : Nat) (v : Value) : By (w.setCell ⟨g, j, none⟩ v) b s :=
  fun i hi => (World.cell?_of_block (Below.heap_setCell _ _ _ _ (by simpa using hg))).trans (h i hi)
theorem By.below {w w' : World} {b : Nat} {s : ByteArray} (h : By w b s) (hb : Below w.heap.size w w') (hlt : b < w.heap.size) : By w' b s := fun i hi => (hb.cell (p := ⟨b, i, none⟩) hlt).trans (h i hi)
/-- A text turned to bytes: a new block with them. -/
theorem bytes_new (W : World) (s : ByteArray) : Below W.heap.size W (Lib.bytesWorld W 5 s) ∧ By (Lib.bytesWorld W 5 s) W.heap.size s ∧ (Lib.bytesWorld W 5 s).heap.size = W.heap.size + 1 := by
  refine ⟨⟨rfl, rfl, rfl, by rw [Lib.bytesWorld_size]; omega, fun k hk => Lib.bytesWorld_at_old W 5 s k hk⟩, fun i hi => ?_, Lib.bytesWorld_size W 5 s⟩
  rw [Lib.bytesWorld_cell W 5 s i hi]
  congr 3
  rw [List.getD, List.getElem?_eq_getElem (by rw [← Lib.size_eq]; exact hi)]
  rfl
theorem conv_bytes (s : ByteArray) (W : World) : (convert 9 70 (.string s)).run Tryz.prog W = .ok (.slice (some ⟨W.heap.size, 0, none⟩) s.size (grownCap W s.size 0 5)) (Lib.bytesWorld W 5 s) :=
  Lib.run_convert_string_bytes W 9 70 5 s Tryz.underlying9 Tryz.underlying70 Tryz.underlying5
theorem conv_back (W : World) (g cap : Nat) (acc : U.B) (h : Buf W g acc.length acc) : (convert 70 9 (.slice (some ⟨g, 0, none⟩) acc.length cap)).run Tryz.prog W = .ok (.string (S acc)) W := by
  have := Lib.run_convert_whole (P := Tryz.prog) W 70 5 9 Tryz.underlying70 Tryz.underlying5 Tryz.underlying9 g 0 (S acc) (fun i hi => by
    obtain ⟨cs, t, h1, _, h3⟩ := h
    have hi' : i < acc.length := by rw [← U.size_S]; exact hi
    rw [Nat.zero_add]
    simp only [World.cell?, h1]
    exact h3 i hi') cap
  rw [U.size_S] at this
  exact this

theorem info5 : (Tryz.prog.info? 5).map (fun i => (i.zero, i.size, i.bytes)) = some (some (.int .u8 0), 1, 1) := by kernel_rfl
theorem len112 : Tryz.prog.arrayLen 112 = 64 := by kernel_rfl
theorem elem112 : Tryz.prog.elem 112 = 5 := by kernel_rfl
theorem und112 : Tryz.prog.underlying 112 = some (.array (Tryz.prog.arrayLen 112) (Tryz.prog.elem 112)) := by kernel_rfl
theorem size5 (W : World) : (Go.sizeOf 5).run Tryz.prog W = .ok 1 W := by kernel_rfl
theorem slice64 (r : Int) (h0 : 0 ≤ r) (h1 : r ≤ 64) (a : Addr) (W : World) :
    (Instr.sliceAt 112 (.pointer (some a)) none (some (.int .i64 r)) none).run Tryz.prog W = .ok (.slice (some a) r.toNat 64) W := by
  rw [run_sliceAt_array_h (P := Tryz.prog) W 112 a und112 .i64 r h0 (by rw [len112]; exact h1), elem112, size5, len112]
  simp [Result.andThen, slicedAt, Addr.add]
theorem make_r (r : Int) (h0 : 0 ≤ r) (h1 : r ≤ 10000000000) (W : World) :
    (Instr.makeSlice 70 (.int .i64 r) (.int .i64 r)).run Tryz.prog W = .ok (.slice (some ⟨W.heap.size, 0, none⟩) r.toNat r.toNat) (W.alloc (.cells (madeCells #[.int .u8 0] r.toNat) 5)) := by
  obtain ⟨i0, hi, hz0, hz1, hz2⟩ := info_parts info5
  have := run_make (P := Tryz.prog) W 70 5 i0 _ Tryz.underlying70 hi hz0 .i64 .i64 r r h0 (Int.le_refl _) (by rw [hz2]; omega) (by omega)
  rw [hz1, Nat.mul_one] at this
  exact this
theorem buf_new (W : World) (cs : Array Value) (t : TypeId) (n : Nat) (h : n ≤ cs.size) : Buf (W.alloc (.cells cs t)) W.heap.size n [] :=
  ⟨cs, t, heap_new W _ _ rfl, h, fun i hi => by simp at hi⟩

theorem put_step {W w : World} {b g n : Nat} {s : ByteArray} {acc : U.B} (BU : Hid (Buf w g n acc)) (Y : Hid (By w b s)) (BW : Hid (Below W.heap.size W w)) (hb : b ≠ g) (hg : W.heap.size < g) (hn : acc.length < n) (c : UInt8) (j : Nat) (x : Int) (hj : j = acc.length) (hx : x = (c.toNat : Int)) :
    ∃ w', w.setCell ⟨g, j, none⟩ (.int .u8 x) = w' ∧ Hid (Buf w' g n (acc ++ [c])) ∧ Hid (By w' b s) ∧ Hid (Below W.heap.size W w') :=
  ⟨_, rfl, BU.out.put hn c j x hj hx, Y.out.set hb _ _, BW.out.setCell (by show _ ≤ g; omega) _⟩
theorem fig_at (n : Nat) (h : n < 16) : (⟨#[48, 49, 50, 51, 52, 53, 54, 55, 56, 57, 65, 66, 67, 68, 69, 70]⟩ : ByteArray)[n]'h = U.figs.getD n 0 := by
  match n, h with
  | 0, _ => rfl
  | 1, _ => rfl
  | 2, _ => rfl
  | 3, _ => rfl
  | 4, _ => rfl
  | 5, _ => rfl
  | 6, _ => rfl
  | 7, _ => rfl
  | 8, _ => rfl
  | 9, _ => rfl
  | 10, _ => rfl
  | 11, _ => rfl
  | 12, _ => rfl
  | 13, _ => rfl
  | 14, _ => rfl
  | 15, _ => rfl
  | n + 16, h => omega

set_option maxRecDepth 100000 in
set_option maxHeartbeats 4000000 in
theorem i_escape (s : ByteArray) (w : Nat) (m : Int) (W : World) (hs : Sm s) (hT : Tab W) (hm : m = mode w) (h32 : (m == 32) = false) :
    Calls Tryz.prog 74 #[.string s, .int .u8 m] W fun e w' => e = .returned (.string (S (U.esc w (L s)))) ∧ Below W.heap.size W w' := by
  obtain ⟨out, HO⟩ : ∃ o, Hid (U.esc w (L s) = o) := ⟨_, rfl⟩
  rw [HO.out]
  have HM := Lib.hid hm
  have HT := Lib.hid hT
  have kc := conv_bytes s
  clear hm hT
  go_enter Tryz.func74, Tryz.ntmps74
  go_wp2_with fail
  obtain ⟨b1, y1, z1⟩ := bytes_new W s
  obtain ⟨W1, HW⟩ : ∃ W1, Hid (Lib.bytesWorld W 5 s = W1) := ⟨_, rfl⟩
  rw [HW.out] at b1 y1 z1 ⊢
  have B1 := Lib.hid b1
  have Y1 := Lib.hid y1
  have Z1 := Lib.hid z1
  have HT1 := Lib.hid (HT.out.below b1)
  clear HW b1 y1 z1 kc
  go_loop [5, 6, 19] (fun a b i => ∃ k n : Nat, k ≤ s.size ∧ n ≤ k ∧ i = .int .i64 k ∧ a = .int .i64 0 ∧ b = .int .i64 n ∧ Hid (n = hexn w ((L s).take k))) (fun _ _ i => s.size - (intOf i).toNat)
  case atStart => exact ⟨0, 0, Nat.zero_le _, Nat.le_refl _, rfl, rfl, rfl, rfl⟩
  case round =>
    obtain ⟨k, n, hk, hn, rfl, rfl, rfl, HN⟩ := hrel
    by_cases hlt : k < s.size
    · have hc := Y1.out k hlt
      obtain ⟨b, HB⟩ : ∃ b, Hid ((!U.free w (s[k]'hlt)) = b) := ⟨_, rfl⟩
      have hsn := hexn_snoc w s k hlt
      go_wp2_with fail
      refine (i_shouldEscape (s[k]'hlt) w _ m b _ HT1.out rfl HM.out HB).mono ?_
      rintro e w1 ⟨rfl, rfl⟩
      cases b
      · have HP : Hid (n = hexn w ((L s).take (k + 1))) := by
          rw [hsn, if_pos (by simpa using HB.out), HN.out]
          exact Lib.hid rfl
        clear hsn
        go_wp2_with fail
        exact ⟨⟨k + 1, n, by omega, by omega, by go_num, rfl, rfl, HP⟩, by simp [intOf]; omega⟩
      · have HP : Hid (n + 1 = hexn w ((L s).take (k + 1))) := by
          rw [hsn, if_neg (by simpa using HB.out), HN.out]
          exact Lib.hid rfl
        clear hsn
        by_cases hsp : ((s[k]'hlt).toNat : Int) = 32
        · go_wp2_with fail
          exact ⟨⟨k + 1, n + 1, by omega, by omega, by go_num, rfl, by go_num, HP⟩, by simp [intOf]; omega⟩
        · have hne : (((s[k]'hlt).toNat : Int) == 32) = false := beq_eq_false_iff_ne.2 hsp
          clear hsp
          go_wp2_with fail
          exact ⟨⟨k + 1, n + 1, by omega, by omega, by go_num, rfl, by go_num, HP⟩, by simp [intOf]; omega⟩
    · have hn2 : n = hexn w (L s) := by
        have := HN.out
        rwa [List.take_of_length_le (by rw [U.len_L]; omega)] at this
      have hlen : (U.esc w (L s)).length = s.size + 2 * n := by rw [esc_size, U.len_L, ← hn2]
      rw [HO.out] at hlen
      have hsm : s.size ≤ 1000000000 := hs
      by_cases hn0 : n = 0
      · have ho : out = L s := by rw [← HO.out]; exact esc_same w _ (by rw [← hn2]; exact hn0)
        subst ho
        subst hn0
        clear hn2 hlen
        go_wp2_with fail
        go_ret
        exact ⟨rfl, B1.out⟩
      · have hn1 : ((n : Int) == 0) = false := beq_eq_false_iff_ne.2 (by omega)
        have HL := Lib.hid hlen
        clear hlen HN hn2 hn0
        go_upto_if 50 with fail
        go_cut [10] (fun t wx => ∃ g c : Nat, t = .slice (some ⟨g, 0, none⟩) (s.size + 2 * n) c ∧ Buf wx g (s.size + 2 * n) [] ∧ W1.heap.size ≤ g ∧ Below W1.heap.size W1 wx)
        case first =>
          by_cases h64 : (s.size : Int) + 2 * (n : Int) ≤ 64
          · have hsl := slice64 ((s.size : Int) + 2 * (n : Int)) (by omega) h64
            have ht : ((s.size : Int) + 2 * (n : Int)).toNat = s.size + 2 * n := by omega
            rw [ht] at hsl
            clear ht
            go_wp2_with fail
            go_meet
            exact ⟨W1.heap.size, 64, rfl, buf_new _ _ _ _ (Nat.le_trans (by omega : s.size + 2 * n ≤ 64) (by decide)), Nat.le_refl _, (Below.refl _ _).alloc (Nat.le_refl _) _⟩
          · have hmk := make_r ((s.size : Int) + 2 * (n : Int)) (by omega) (by omega)
            have ht : ((s.size : Int) + 2 * (n : Int)).toNat = s.size + 2 * n := by omega
            rw [ht] at hmk
            clear ht
            go_wp2_with fail
            go_meet
            refine ⟨W1.heap.size + 1, _, rfl, ?_, by omega, ((Below.refl _ _).alloc (Nat.le_refl _) _).alloc (by simp) _⟩
            have := buf_new (W1.alloc (.cells (Array.replicate 64 (.int .u8 0)) 112)) (madeCells #[.int .u8 0] (s.size + 2 * n)) 5 (s.size + 2 * n) (by rw [size_madeCells]; exact Nat.le_refl _)
            rw [show (W1.alloc (.cells (Array.replicate 64 (.int .u8 0)) 112)).heap.size = W1.heap.size + 1 by simp] at this
            exact this
        case rest =>
          obtain ⟨g, cap, rfl, hbuf, hg, hbw⟩ := hcut
          have HBU := Lib.hid hbuf
          have HBW := Lib.hid hbw
          have HG := Lib.hid hg
          have kc := conv_bytes s
          clear hbuf hbw hg
          go_wp2_with fail
          obtain ⟨b3, y3, z3⟩ := bytes_new wc s
          have BU3 : Hid (Buf (Lib.bytesWorld wc 5 s) g (s.size + 2 * n) []) := Lib.hid (HBU.out.below b3)
          have hgb : g < wc.heap.size := HBU.out.lt
          have BW3 : Hid (Below W.heap.size W (Lib.bytesWorld wc 5 s)) := by
            have h1 := HBW.out
            exact Lib.hid ((B1.out.trans (h1.mono B1.out.size)).trans (b3.mono (Nat.le_trans B1.out.size h1.size)))
          have Y3 := Lib.hid y3
          have HGW : Hid (W.heap.size < g) := Lib.hid (by have := HG.out; have := Z1.out; omega)
          obtain ⟨b, hb⟩ : ∃ b, wc.heap.size = b := ⟨_, rfl⟩
          obtain ⟨W3, HW⟩ : ∃ W3, Hid (Lib.bytesWorld wc 5 s = W3) := ⟨_, rfl⟩
          rw [hb] at Y3 hgb ⊢
          rw [HW.out] at BU3 BW3 Y3 ⊢
          have hn9 : s.size + 2 * n ≤ 3000000000 := by omega
          clear HW b3 y3 z3 kc hb HBU HBW HG Y1 Z1 HT1 B1
          go_loopw [13, 78] (fun j i wr => ∃ k : Nat, k ≤ s.size ∧ i = .int .i64 k ∧ j = .int .i64 (((U.esc w ((L s).take k)).length : Nat) : Int) ∧ Hid (Buf wr g (s.size + 2 * n) (U.esc w ((L s).take k))) ∧ Hid (By wr b s) ∧ Hid (Below W.heap.size W wr)) (fun _ i _ => s.size - (intOf i).toNat)
          case atStart => exact ⟨0, Nat.zero_le _, rfl, rfl, BU3, Y3, BW3⟩
          case round =>
            clear BU3 Y3 BW3 hk hlt
            obtain ⟨k, hk, rfl, rfl, BU, Y, BW⟩ := hrel
            have hup := esc_upto w s k
            have hup2 := esc_upto w s (k + 1)
            rw [HO.out, HL.out] at hup hup2
            by_cases hlt : k < s.size
            · have hsn := esc_snoc w s k hlt
              have HSN := Lib.hid hsn
              rw [hsn, List.length_append] at hup2
              obtain ⟨acc, HA⟩ : ∃ acc, Hid (U.esc w ((L s).take k) = acc) := ⟨_, rfl⟩
              rw [HA.out] at BU HSN hup hup2 ⊢
              have hal : acc.length ≤ 3000000000 := by omega
              clear hsn
              have hc := Y.out k hlt
              obtain ⟨q, HQ⟩ : ∃ b, Hid ((!U.free w (s[k]'hlt)) = b) := ⟨_, rfl⟩
              have hHT := HT.out.keep BW.out HT.out.lt
              have HT2 := Lib.hid hHT
              clear hHT
              obtain ⟨sp, hsp⟩ : ∃ b, (((s[k]'hlt).toNat : Int) == 32) = b := ⟨_, rfl⟩
              cases q
              · have h1 : U.esc1 w (s[k]'hlt) = [s[k]'hlt] := by
                  unfold U.esc1
                  rw [if_pos (by simpa using HQ.out)]
                rw [h1] at hup2 HSN
                rw [List.length_singleton] at hup2
                clear h1
                obtain ⟨v, hv⟩ := BU.out.cell acc.length (by omega)
                have hf := BU.out.free acc.length
                cases sp
                all_goals
                  go_wp2_with fail
                  refine (i_shouldEscape (s[k]'hlt) w _ m false _ HT2.out rfl HM.out HQ).mono ?_
                  rintro e w1 ⟨rfl, rfl⟩
                  go_wp2_with fail
                  go_roundw
                  case rel =>
                    refine ⟨k + 1, by omega, by go_num, ?_, ?_, ?_, ?_⟩
                    · rw [HSN.out]
                      simp
                    · rw [HSN.out]
                      exact Lib.hid (BU.out.put (by omega) _ _ _ rfl rfl)
                    · exact Lib.hid (Y.out.set (by omega) _ _)
                    · exact Lib.hid (BW.out.setCell (by show _ ≤ g; have := HGW.out; omega) _)
                  case measure => simp [intOf]; omega
              · have h1 : ∃ x y, U.esc1 w (s[k]'hlt) = [37, x, y] ∧ x = U.figs.getD ((s[k]'hlt).toNat / 16) 0 ∧ y = U.figs.getD ((s[k]'hlt).toNat % 16) 0 := by
                  unfold U.esc1
                  rw [if_neg (by simpa using HQ.out)]
                  exact ⟨_, _, rfl, rfl, rfl⟩
                obtain ⟨x, y, h1, hx, hy⟩ := h1
                have HX := Lib.hid hx
                have HY := Lib.hid hy
                rw [h1] at hup2 HSN
                have h3 : ([37, x, y] : U.B).length = 3 := rfl
                rw [h3] at hup2
                clear h1 h3 hx hy
                obtain ⟨v, hv⟩ := BU.out.cell acc.length (by omega)
                have hf := BU.out.free acc.length
                cases sp
                all_goals
                  go_wp2_with fail
                  refine (i_shouldEscape (s[k]'hlt) w _ m true _ HT2.out rfl HM.out HQ).mono ?_
                  rintro e w1 ⟨rfl, rfl⟩
                  go_upto_region 37 with fail
                  have hbg : b ≠ g := by omega
                  obtain ⟨W4, hW4, BU4, Y4, BW4⟩ := put_step BU Y BW hbg HGW.out (by omega) 37 acc.length 37 rfl rfl
                  rw [hW4]
                  clear hW4 hv hf hc
                  obtain ⟨v4, hv4⟩ := BU4.out.cell (acc.length + 1) (by omega)
                  have hf4 := BU4.out.free (acc.length + 1)
                  have hp4 : ((acc.length : Int) + 1).toNat = acc.length + 1 := by omega
                  have hd1 : ((s[k]'hlt).toNat : Int) / 16 < 16 := by have := (s[k]'hlt).toNat_lt; omega
                  have hd2 : (s[k]'hlt).toNat / 16 < 16 := by have := (s[k]'hlt).toNat_lt; omega
                  go_upto_region 38 with fail
                  obtain ⟨W5, hW5, BU5, Y5, BW5⟩ := put_step BU4 Y4 BW4 hbg HGW.out (by rw [List.length_append, List.length_singleton]; omega) x (acc.length + 1) (((⟨#[48, 49, 50, 51, 52, 53, 54, 55, 56, 57, 65, 66, 67, 68, 69, 70]⟩ : ByteArray)[(s[k]'hlt).toNat / 16]'(by have := (s[k]'hlt).toNat_lt; show _ < 16; omega)).toNat : Int) (by simp) (by rw [fig_at _ (by have := (s[k]'hlt).toNat_lt; omega), HX.out])
                  rw [hW5]
                  clear hW5 hv4 hf4 hp4
                  obtain ⟨v5, hv5⟩ := BU5.out.cell (acc.length + 2) (by omega)
                  have hf5 := BU5.out.free (acc.length + 2)
                  have hp5 : ((acc.length : Int) + 2).toNat = acc.length + 2 := by omega
                  go_upto_region 39 with fail
                  obtain ⟨W6, hW6, BU6, Y6, BW6⟩ := put_step BU5 Y5 BW5 hbg HGW.out (by simp; omega) y (acc.length + 2) (((⟨#[48, 49, 50, 51, 52, 53, 54, 55, 56, 57, 65, 66, 67, 68, 69, 70]⟩ : ByteArray)[(s[k]'hlt).toNat % 16]'(by show _ < 16; omega)).toNat : Int) (by simp) (by rw [fig_at _ (by omega), HY.out])
                  rw [hW6]
                  clear hW6 hv5 hf5 hp5
                  go_wp2_with fail
                  go_roundw
                  case rel =>
                    refine ⟨k + 1, by omega, by go_num, ?_, ?_, Y6, BW6⟩
                    · rw [HSN.out]
                      simp
                    · rw [HSN.out]
                      have := BU6.out
                      simp only [List.append_assoc, List.cons_append, List.nil_append] at this
                      exact Lib.hid this
                  case measure => simp [intOf]; omega
            · have ho : U.esc w ((L s).take k) = out := by
                rw [List.take_of_length_le (by rw [U.len_L]; omega)]
                exact HO.out
              rw [ho] at BU
              rw [ho]
              have hl := HL.out
              have BU7 : Hid (Buf wr g out.length out) := by rw [hl]; exact BU
              have kb := conv_back wr g cap out BU7.out
              rw [hl] at kb
              clear ho
              go_wp2_with fail
              go_ret
              exact ⟨rfl, BW.out⟩
end Go.Proofs.YtphkohpphdcjhaaGreatDoor
namespace Go.Proofs.YtphkohpphdcjhaaGreatDoor
open Go.RowKit Go.Proofs.YtphkohpphdcjhaaGreatDoorW.PrintWords
open U (L S)

/-- A reference's cells in the package; u: its user. -/
abbrev V.ucells (v : V) (u : Value) : Array Value :=
  #[.string v.scheme, .string v.opq, u, .string v.host, .string v.path, .string v.fragment, .string v.rawQuery, .string v.rawPath, .string v.rawFragment, .bool v.forceQuery, .bool v.omitHost]
abbrev V.who (v : V) : Array Value := #[.string v.user, .string v.pass, .bool v.hasPass]
/-- The user: none, or a block of its own. -/
def UserAt (w : World) (v : V) (u : Value) : Prop :=
  (v.hasUser = false ∧ u = .pointer none) ∨ (v.hasUser = true ∧ ∃ h, u = .pointer (some ⟨h, 0, none⟩) ∧ w.heap[h]? = some (.cells v.who 107 (0, 0)))
/-- Block g is the reference v. -/
def IsU (w : World) (g : Nat) (v : V) : Prop := ∃ u, w.heap[g]? = some (.cells (v.ucells u) 80 (0, 0)) ∧ UserAt w v u

theorem UserAt.keep {w w' : World} {v : V} {u : Value} (h : UserAt w v u) (hb : Below w.heap.size w w') : UserAt w' v u := by
  rcases h with h | ⟨h1, k, h2, h3⟩
  · exact .inl h
  · exact .inr ⟨h1, k, h2, (hb.block k (heap_lt h3)).trans h3⟩
theorem UserAt.only {w w' : World} {v : V} {u : Value} {g : Nat} {cs : Array Value} {t : TypeId} (h : UserAt w v u) (ho : Only g w w') (hg : w.heap[g]? = some (.cells cs t (0, 0))) (ht : t ≠ 107) : UserAt w' v u := by
  rcases h with h | ⟨h1, k, h2, h3⟩
  · exact .inl h
  · refine .inr ⟨h1, k, h2, (ho.block k (heap_lt h3) ?_).trans h3⟩
    rintro rfl
    rw [hg] at h3
    simp only [Option.some.injEq, Obj.cells.injEq] at h3
    exact ht h3.2.1
theorem UserAt.same {w : World} {v v' : V} {u : Value} (h : UserAt w v u) (h1 : v'.user = v.user) (h2 : v'.pass = v.pass) (h3 : v'.hasUser = v.hasUser) (h4 : v'.hasPass = v.hasPass) : UserAt w v' u := by
  unfold UserAt V.who at *
  rw [h1, h2, h3, h4]
  exact h
theorem IsU.keep {w w' : World} {g : Nat} {v : V} (h : IsU w g v) (hb : Below w.heap.size w w') : IsU w' g v := by
  obtain ⟨u, h1, h2⟩ := h
  exact ⟨u, (hb.block g (heap_lt h1)).trans h1, h2.keep hb⟩
theorem IsU.drewN {w : World} {g : Nat} {v : V} (h : IsU w g v) (n : Nat) : IsU (w.drewN n) g v := h
theorem IsU.lt {w : World} {g : Nat} {v : V} (h : IsU w g v) : g < w.heap.size := by
  obtain ⟨u, h1, _⟩ := h
  exact heap_lt h1
/-- One part of a reference is given. -/
theorem IsU.set {w : World} {g : Nat} {v v' : V} {u : Value} (h1 : w.heap[g]? = some (.cells (v.ucells u) 80 (0, 0))) (h2 : UserAt w v u) (o : Nat) (x : Value) (hv : (v.ucells u).setIfInBounds o x = v'.ucells u)
    (e1 : v'.user = v.user := by rfl) (e2 : v'.pass = v.pass := by rfl) (e3 : v'.hasUser = v.hasUser := by rfl) (e4 : v'.hasPass = v.hasPass := by rfl) : IsU (w.setCell ⟨g, o, none⟩ x) g v' :=
  ⟨u, (heap_set h1 x).trans (by rw [hv]), (h2.only ((Only.refl g w).setCell o x) h1 (by decide)).same e1 e2 e3 e4⟩

theorem IsU.ne0 {w : World} {g : Nat} {v : V} (h : IsU w g v) (hT : Tab w) : g ≠ 0 := by
  obtain ⟨u, h1, _⟩ := h
  rintro rfl
  have h0 := hT 0 (by decide)
  rw [cell_at (o := 0) h1 rfl] at h0
  simp at h0
theorem IsU.only {w w' : World} {g k : Nat} {v : V} (h : IsU w g v) (ho : Only k w w') (hk : g ≠ k) {cs : Array Value} {t : TypeId} (hg : w.heap[k]? = some (.cells cs t (0, 0))) (ht : t ≠ 107) : IsU w' g v := by
  obtain ⟨u, h1, h2⟩ := h
  exact ⟨u, (ho.block g (heap_lt h1) hk).trans h1, h2.only ho hg ht⟩
/-- No text of the reference is longer than n. -/
structure V.Sm (n : Nat) (v : V) : Prop where
  scheme : v.scheme.size ≤ n
  opq : v.opq.size ≤ n
  user : v.user.size ≤ n
  pass : v.pass.size ≤ n
  host : v.host.size ≤ n
  path : v.path.size ≤ n
  rawPath : v.rawPath.size ≤ n
  rawQuery : v.rawQuery.size ≤ n
  fragment : v.fragment.size ≤ n
  rawFragment : v.rawFragment.size ≤ n

/-- What setPath leaves. -/
def SetPost (W : World) (g : Nat) (v v' : V) (ok : Bool) (e : Ending) (w' : World) : Prop :=
  Only g W w' ∧ if ok = true then e = .returned .nilIface ∧ IsU w' g v' else (∃ x, IsErr x ∧ e = .returned x) ∧ IsU w' g v

set_option maxHeartbeats 1600000 in
theorem i_setPath (W : World) (g : Nat) (v : V) (s : ByteArray) (hs : Sm s) (hT : Tab W) (hg : IsU W g v) :
    Calls Tryz.prog 83 #[.pointer (some ⟨g, 0, none⟩), .string s] W (SetPost W g v (U.setPath v s).1 (U.setPath v s).2) := by
  obtain ⟨o, HO⟩ : ∃ o, Hid (U.unesc 0 (L s) = o) := ⟨_, rfl⟩
  have cu := i_un_path s W hs hT
  rw [HO.out] at cu
  have CU := Lib.hid cu
  have HT := Lib.hid hT
  have HG := Lib.hid hg
  obtain ⟨v', HV⟩ : ∃ v', Hid ((U.setPath v s).1 = v') := ⟨_, rfl⟩
  have HV1 : Hid ((U.setPath v s).2 = o.isSome) := by
    unfold U.setPath
    rw [HO.out]
    exact Lib.hid rfl
  rw [HV.out, HV1.out]
  have HV2 : Hid ({ v with path := S (o.getD []), rawPath := if U.esc 0 (o.getD []) = L s then E else s } = v') := by
    rw [← HV.out, U.setPath, HO.out]
    exact Lib.hid rfl
  clear cu hT hg HV HV1
  go_enter Tryz.func83, Tryz.ntmps83
  go_wp2_with fail
  refine CU.out.mono ?_
  cases o with
  | none =>
    rintro e w1 ⟨b1, x, hx, rfl⟩
    obtain ⟨t, y, rfl⟩ := hx
    go_wp2_with fail
    go_ret
    exact ⟨Only.of_below b1, ⟨_, ⟨t, y, rfl⟩, rfl⟩, HG.out.keep b1⟩
  | some l =>
    rintro e w1 ⟨b1, rfl⟩
    obtain ⟨u, h1, h2⟩ := HG.out.keep b1
    have c4 := cell_at (o := 4) h1 rfl
    have f4 := free_at (o := 4) h1
    have HT1 := Lib.hid (HT.out.below b1)
    have HO1 : Hid (Only g W w1) := Lib.hid (Only.of_below b1)
    have H1 : Hid (IsU (w1.setCell ⟨g, 4, none⟩ (.string (S l))) g { v with path := S l }) := Lib.hid (IsU.set h1 h2 4 _ rfl)
    have HO2 := Lib.hid (HO1.out.setCell 4 (.string (S l)))
    have hl : l.length ≤ s.size := by rw [← U.len_L]; exact U.unesc_len 0 _ _ _ (Nat.le_refl _) HO.out
    have hsl : Sm (S l) := by unfold Sm at *; rw [U.size_S]; omega
    have hg0 := (HG.out.keep b1).ne0 HT1.out
    obtain ⟨W2, HW2⟩ : ∃ W2, Hid (w1.setCell ⟨g, 4, none⟩ (.string (S l)) = W2) := ⟨_, rfl⟩
    have HT2 : Hid (Tab W2) := by rw [← HW2.out]; exact Lib.hid (HT1.out.only ((Only.refl g w1).setCell 4 _) hg0)
    have ce := i_escape (S l) 0 1 W2 hsl HT2.out rfl rfl
    rw [U.L_S] at ce
    have CE := Lib.hid ce
    clear b1 h1 h2 ce
    go_upto_region 5 with fail
    rw [HW2.out] at H1 HO2 ⊢
    clear c4 f4 HW2
    go_wp2_with fail
    refine CE.out.mono ?_
    rintro e w2 ⟨rfl, b2⟩
    obtain ⟨u, h1, h2⟩ := H1.out.keep b2
    have c7 := cell_at (o := 7) h1 rfl
    have f7 := free_at (o := 7) h1
    have HO3 := Lib.hid (HO2.out.then_ b2)
    have H3 : ∀ x, v' = { v with path := S l, rawPath := x } → IsU (w2.setCell ⟨g, 7, none⟩ (.string x)) g v' := by
      intro x hx
      rw [hx]
      exact IsU.set h1 h2 7 _ rfl
    have H3 := Lib.hid H3
    clear b2 h1 h2
    by_cases heq : U.esc 0 l = L s
    · have hv : v' = { v with path := S l, rawPath := E } := by
        rw [← HV2.out]
        simp [heq]
      have he : s = S (U.esc 0 l) := by rw [heq, U.S_L]
      subst he
      have HVV := Lib.hid hv
      clear heq hv
      go_wp2_with fail
      go_ret
      exact ⟨HO3.out.setCell _ _, rfl, H3.out _ HVV.out⟩
    · have hv : v' = { v with path := S l, rawPath := s } := by
        rw [← HV2.out]
        simp [heq]
      have HVV := Lib.hid hv
      have he : (s.toList == (S (U.esc 0 l)).toList) = false := by
        rw [U.toList_L, U.toList_L, U.L_S]
        exact beq_eq_false_iff_ne.2 (fun e => heq e.symm)
      clear heq hv
      go_wp2_with fail
      go_ret
      exact ⟨HO3.out.setCell _ _, rfl, H3.out _ HVV.out⟩
/-- A fragment given to a reference, and whether its escapes are right. -/
def setFrag (v : V) (s : ByteArray) : V × Bool :=
  ({ v with fragment := S ((U.unesc 3 (L s)).getD []), rawFragment := if U.esc 3 ((U.unesc 3 (L s)).getD []) = L s then E else s }, (U.unesc 3 (L s)).isSome)

set_option maxHeartbeats 1600000 in
theorem i_setFragment (W : World) (g : Nat) (v : V) (s : ByteArray) (hs : Sm s) (hT : Tab W) (hg : IsU W g v) :
    Calls Tryz.prog 69 #[.pointer (some ⟨g, 0, none⟩), .string s] W (SetPost W g v (setFrag v s).1 (setFrag v s).2) := by
  obtain ⟨o, HO⟩ : ∃ o, Hid (U.unesc 3 (L s) = o) := ⟨_, rfl⟩
  have cu := i_un_frag s W hs hT
  rw [HO.out] at cu
  have CU := Lib.hid cu
  have HT := Lib.hid hT
  have HG := Lib.hid hg
  obtain ⟨v', HV⟩ : ∃ v', Hid ((setFrag v s).1 = v') := ⟨_, rfl⟩
  have HV1 : Hid ((setFrag v s).2 = o.isSome) := by
    unfold setFrag
    rw [HO.out]
    exact Lib.hid rfl
  rw [HV.out, HV1.out]
  have HV2 : Hid ({ v with fragment := S (o.getD []), rawFragment := if U.esc 3 (o.getD []) = L s then E else s } = v') := by
    rw [← HV.out, setFrag, HO.out]
    exact Lib.hid rfl
  clear cu hT hg HV HV1
  go_enter Tryz.func69, Tryz.ntmps69
  go_wp2_with fail
  refine CU.out.mono ?_
  cases o with
  | none =>
    rintro e w1 ⟨b1, x, hx, rfl⟩
    obtain ⟨t, y, rfl⟩ := hx
    go_wp2_with fail
    go_ret
    exact ⟨Only.of_below b1, ⟨_, ⟨t, y, rfl⟩, rfl⟩, HG.out.keep b1⟩
  | some l =>
    rintro e w1 ⟨b1, rfl⟩
    obtain ⟨u, h1, h2⟩ := HG.out.keep b1
    have c5 := cell_at (o := 5) h1 rfl
    have f5 := free_at (o := 5) h1
    have HT1 := Lib.hid (HT.out.below b1)
    have HO1 : Hid (Only g W w1) := Lib.hid (Only.of_below b1)
    have H1 : Hid (IsU (w1.setCell ⟨g, 5, none⟩ (.string (S l))) g { v with fragment := S l }) := Lib.hid (IsU.set h1 h2 5 _ rfl)
    have HO2 := Lib.hid (HO1.out.setCell 5 (.string (S l)))
    have hl : l.length ≤ s.size := by rw [← U.len_L]; exact U.unesc_len 3 _ _ _ (Nat.le_refl _) HO.out
    have hsl : Sm (S l) := by unfold Sm at *; rw [U.size_S]; omega
    have hg0 := (HG.out.keep b1).ne0 HT1.out
    obtain ⟨W2, HW2⟩ : ∃ W2, Hid (w1.setCell ⟨g, 5, none⟩ (.string (S l)) = W2) := ⟨_, rfl⟩
    have HT2 : Hid (Tab W2) := by rw [← HW2.out]; exact Lib.hid (HT1.out.only ((Only.refl g w1).setCell 5 _) hg0)
    have ce := i_escape (S l) 3 64 W2 hsl HT2.out rfl rfl
    rw [U.L_S] at ce
    have CE := Lib.hid ce
    clear b1 h1 h2 ce
    go_upto_region 5 with fail
    rw [HW2.out] at H1 HO2 ⊢
    clear c5 f5 HW2
    go_wp2_with fail
    refine CE.out.mono ?_
    rintro e w2 ⟨rfl, b2⟩
    obtain ⟨u, h1, h2⟩ := H1.out.keep b2
    have c8 := cell_at (o := 8) h1 rfl
    have f8 := free_at (o := 8) h1
    have HO3 := Lib.hid (HO2.out.then_ b2)
    have H3 : ∀ x, v' = { v with fragment := S l, rawFragment := x } → IsU (w2.setCell ⟨g, 8, none⟩ (.string x)) g v' := by
      intro x hx
      rw [hx]
      exact IsU.set h1 h2 8 _ rfl
    have H3 := Lib.hid H3
    clear b2 h1 h2
    by_cases heq : U.esc 3 l = L s
    · have hv : v' = { v with fragment := S l, rawFragment := E } := by
        rw [← HV2.out]
        simp [heq]
      have he : s = S (U.esc 3 l) := by rw [heq, U.S_L]
      subst he
      have HVV := Lib.hid hv
      clear heq hv
      go_wp2_with fail
      go_ret
      exact ⟨HO3.out.setCell _ _, rfl, H3.out _ HVV.out⟩
    · have hv : v' = { v with fragment := S l, rawFragment := s } := by
        rw [← HV2.out]
        simp [heq]
      have HVV := Lib.hid hv
      have he : (s.toList == (S (U.esc 3 l)).toList) = false := by
        rw [U.toList_L, U.toList_L, U.L_S]
        exact beq_eq_false_iff_ne.2 (fun e => heq e.symm)
      clear heq hv
      go_wp2_with fail
      go_ret
      exact ⟨HO3.out.setCell _ _, rfl, H3.out _ HVV.out⟩

set_option maxHeartbeats 3200000 in
theorem i_escPath (W : World) (g : Nat) (v : V) (hv : v.Sm 100000000) (hT : Tab W) (hg : IsU W g v) :
    Calls Tryz.prog 44 #[.pointer (some ⟨g, 0, none⟩)] W fun e w' => e = .returned (.string (S (U.escPath v))) ∧ Below W.heap.size W w' := by
  obtain ⟨r, HR⟩ : ∃ r, Hid (S (U.escPath v) = r) := ⟨_, rfl⟩
  rw [HR.out]
  obtain ⟨u, h1, h2⟩ := hg
  have c4 : W.cell? ⟨g, 4, none⟩ = some (.string v.path) := cell_at h1 rfl
  have c7 : W.cell? ⟨g, 7, none⟩ = some (.string v.rawPath) := cell_at h1 rfl
  have hlt := heap_lt h1
  have HT := Lib.hid hT
  have hsp : Sm v.path := Nat.le_trans hv.path (by decide)
  have hsr : Sm v.rawPath := Nat.le_trans hv.rawPath (by decide)
  obtain ⟨raw, HRA⟩ : ∃ x, Hid (v.rawPath = x) := ⟨_, rfl⟩
  obtain ⟨pa, HPA⟩ : ∃ x, Hid (v.path = x) := ⟨_, rfl⟩
  have HV : Hid (S (if U.kept? 0 (L raw) (L pa) then L raw else if L pa = [42] then [42] else U.esc 0 (L pa)) = r) := by
    rw [← HR.out, ← HRA.out, ← HPA.out]
    exact Lib.hid rfl
  rw [HPA.out] at c4 hsp
  rw [HRA.out] at c7 hsr
  obtain ⟨o, HO⟩ : ∃ o, Hid (U.unesc 0 (L raw) = o) := ⟨_, rfl⟩
  obtain ⟨k, HK⟩ : ∃ o, Hid (U.kept 0 (L raw) = o) := ⟨_, rfl⟩
  have cu := i_un_path raw W hsr hT
  rw [HO.out] at cu
  have CU := Lib.hid cu
  clear h1 h2 hT hv HR HRA HPA cu
  by_cases hA : U.kept? 0 (L raw) (L pa) = true
  · have hr : r = raw := by rw [← HV.out, if_pos hA, U.S_L]
    subst hr
    simp only [U.kept?, Bool.and_eq_true, beq_iff_eq, Bool.not_eq_true'] at hA
    obtain ⟨⟨h1, h2⟩, h3⟩ := hA
    have hne : (r.toList == []) = false := by rw [U.toList_L]; cases h : L r with
      | nil => rw [h] at h1; simp at h1
      | cons a b => rfl
    obtain rfl : k = true := by rw [← HK.out, h2]
    obtain rfl : o = some (L pa) := by rw [← HO.out, h3]
    clear h1 h2 h3
    go_enter Tryz.func44, Tryz.ntmps44
    go_wp2_with fail
    refine (i_kept r 0 1 true _ hsr HT.out rfl HK).mono ?_
    rintro e w1 ⟨rfl, rfl⟩
    go_wp2_with fail
    refine CU.out.mono ?_
    rintro e w1 ⟨b1, rfl⟩
    have hb := b1.cell (p := ⟨g, 4, none⟩) hlt
    rw [c4] at hb
    have hb7 := b1.cell (p := ⟨g, 7, none⟩) hlt
    rw [c7] at hb7
    have B1 := Lib.hid b1
    clear b1 c4 c7
    rw [U.S_L]
    go_wp2_with fail
    go_ret
    exact ⟨rfl, B1.out⟩
  · have HV2 : Hid (S (if L pa = [42] then [42] else U.esc 0 (L pa)) = r) := by rw [← HV.out, if_neg hA]; exact Lib.hid rfl
    obtain ⟨st, hst⟩ : ∃ b, (pa.toList == [42]) = b := ⟨_, rfl⟩
    have HE : Hid (if st = true then r = ⟨#[42]⟩ else S (U.esc 0 (L pa)) = r) := by
      rw [← hst]
      by_cases h : L pa = [42]
      · rw [if_pos (by rw [U.toList_L]; simpa using h), ← HV2.out, if_pos h]
        rfl
      · rw [if_neg (by rw [U.toList_L]; simpa using h), ← HV2.out, if_neg h]
        rfl
    clear HV HV2
    by_cases hr : L raw = []
    · have h1 : raw.toList = [] := by rw [U.toList_L]; exact hr
      clear hr hA HO HK CU
      cases st
      · have h2 : S (U.esc 0 (L pa)) = r := by have := HE.out; simpa using this
        have H2 := Lib.hid h2
        clear h2 HE
        go_enter Tryz.func44, Tryz.ntmps44
        go_wp2_with fail
        refine (i_escape pa 0 1 _ hsp HT.out rfl rfl).mono ?_
        rintro e w2 ⟨rfl, b2⟩
        rw [H2.out]
        go_wp2_with fail
        go_ret
        exact ⟨rfl, b2⟩
      · have h2 : r = ⟨#[42]⟩ := by have := HE.out; simpa using this
        have H2 := Lib.hid h2
        clear h2 HE
        go_enter Tryz.func44, Tryz.ntmps44
        go_wp2_with fail
        go_ret
        rw [H2.out]
        exact ⟨rfl, Below.refl _ _⟩
    have h1 : (raw.toList == []) = false := by rw [U.toList_L]; simpa using hr
    have HNE : Hid (¬ L raw = []) := Lib.hid hr
    clear hr
    cases k
    · clear hA HO CU
      cases st
      · have h2 : S (U.esc 0 (L pa)) = r := by have := HE.out; simpa using this
        have H2 := Lib.hid h2
        clear h2 HE
        go_enter Tryz.func44, Tryz.ntmps44
        go_wp2_with fail
        refine (i_kept raw 0 1 false _ hsr HT.out rfl HK).mono ?_
        rintro e w1 ⟨rfl, rfl⟩
        go_wp2_with fail
        refine (i_escape pa 0 1 _ hsp HT.out rfl rfl).mono ?_
        rintro e w2 ⟨rfl, b2⟩
        rw [H2.out]
        go_wp2_with fail
        go_ret
        exact ⟨rfl, b2⟩
      · have h2 : r = ⟨#[42]⟩ := by have := HE.out; simpa using this
        have H2 := Lib.hid h2
        clear h2 HE
        go_enter Tryz.func44, Tryz.ntmps44
        go_wp2_with fail
        refine (i_kept raw 0 1 false _ hsr HT.out rfl HK).mono ?_
        rintro e w1 ⟨rfl, rfl⟩
        go_wp2_with fail
        go_ret
        rw [H2.out]
        exact ⟨rfl, Below.refl _ _⟩
    cases o with
    | none =>
      clear hA HO
      cases st
      · have h2 : S (U.esc 0 (L pa)) = r := by have := HE.out; simpa using this
        have H2 := Lib.hid h2
        clear h2 HE
        go_enter Tryz.func44, Tryz.ntmps44
        go_wp2_with fail
        refine (i_kept raw 0 1 true _ hsr HT.out rfl HK).mono ?_
        rintro e w1 ⟨rfl, rfl⟩
        go_wp2_with fail
        refine CU.out.mono ?_
        rintro e w1 ⟨b1, x, hx, rfl⟩
        obtain ⟨t, y, rfl⟩ := hx
        have hb := b1.cell (p := ⟨g, 4, none⟩) hlt
        rw [c4] at hb
        have B1 := Lib.hid b1
        clear b1 c4
        go_wp2_with fail
        refine (i_escape pa 0 1 _ hsp (HT.out.below B1.out) rfl rfl).mono ?_
        rintro e w2 ⟨rfl, b2⟩
        rw [H2.out]
        go_wp2_with fail
        go_ret
        exact ⟨rfl, B1.out.trans (b2.mono B1.out.size)⟩
      · have h2 : r = ⟨#[42]⟩ := by have := HE.out; simpa using this
        have H2 := Lib.hid h2
        clear h2 HE
        go_enter Tryz.func44, Tryz.ntmps44
        go_wp2_with fail
        refine (i_kept raw 0 1 true _ hsr HT.out rfl HK).mono ?_
        rintro e w1 ⟨rfl, rfl⟩
        go_wp2_with fail
        refine CU.out.mono ?_
        rintro e w1 ⟨b1, x, hx, rfl⟩
        obtain ⟨t, y, rfl⟩ := hx
        have hb := b1.cell (p := ⟨g, 4, none⟩) hlt
        rw [c4] at hb
        have B1 := Lib.hid b1
        clear b1 c4
        go_wp2_with fail
        go_ret
        rw [H2.out]
        exact ⟨rfl, B1.out⟩
    | some p =>
      have hp : ((S p).toList == pa.toList) = false := by
        rw [U.toList_L, U.toList_L, U.L_S, beq_eq_false_iff_ne]
        intro e
        apply hA
        simp only [U.kept?, Bool.and_eq_true, beq_iff_eq, Bool.not_eq_true']
        refine ⟨⟨?_, HK.out⟩, by rw [HO.out, e]⟩
        cases h : L raw with
        | nil => exact absurd h HNE.out
        | cons a b => rfl
      clear hA HO
      cases st
      · have h2 : S (U.esc 0 (L pa)) = r := by have := HE.out; simpa using this
        have H2 := Lib.hid h2
        clear h2 HE
        go_enter Tryz.func44, Tryz.ntmps44
        go_wp2_with fail
        refine (i_kept raw 0 1 true _ hsr HT.out rfl HK).mono ?_
        rintro e w1 ⟨rfl, rfl⟩
        go_wp2_with fail
        refine CU.out.mono ?_
        rintro e w1 ⟨b1, rfl⟩
        have hb := b1.cell (p := ⟨g, 4, none⟩) hlt
        rw [c4] at hb
        have B1 := Lib.hid b1
        clear b1 c4
        go_wp2_with fail
        refine (i_escape pa 0 1 _ hsp (HT.out.below B1.out) rfl rfl).mono ?_
        rintro e w2 ⟨rfl, b2⟩
        rw [H2.out]
        go_wp2_with fail
        go_ret
        exact ⟨rfl, B1.out.trans (b2.mono B1.out.size)⟩
      · have h2 : r = ⟨#[42]⟩ := by have := HE.out; simpa using this
        have H2 := Lib.hid h2
        clear h2 HE
        go_enter Tryz.func44, Tryz.ntmps44
        go_wp2_with fail
        refine (i_kept raw 0 1 true _ hsr HT.out rfl HK).mono ?_
        rintro e w1 ⟨rfl, rfl⟩
        go_wp2_with fail
        refine CU.out.mono ?_
        rintro e w1 ⟨b1, rfl⟩
        have hb := b1.cell (p := ⟨g, 4, none⟩) hlt
        rw [c4] at hb
        have B1 := Lib.hid b1
        clear b1 c4
        go_wp2_with fail
        go_ret
        rw [H2.out]
        exact ⟨rfl, B1.out⟩

set_option maxHeartbeats 3200000 in
theorem i_escFrag (W : World) (g : Nat) (v : V) (hv : v.Sm 100000000) (hT : Tab W) (hg : IsU W g v) :
    Calls Tryz.prog 46 #[.pointer (some ⟨g, 0, none⟩)] W fun e w' => e = .returned (.string (S (U.escFrag v))) ∧ Below W.heap.size W w' := by
  obtain ⟨r, HR⟩ : ∃ r, Hid (S (U.escFrag v) = r) := ⟨_, rfl⟩
  rw [HR.out]
  obtain ⟨u, h1, h2⟩ := hg
  have c4 : W.cell? ⟨g, 5, none⟩ = some (.string v.fragment) := cell_at h1 rfl
  have c7 : W.cell? ⟨g, 8, none⟩ = some (.string v.rawFragment) := cell_at h1 rfl
  have hlt := heap_lt h1
  have HT := Lib.hid hT
  have hsp : Sm v.fragment := Nat.le_trans hv.fragment (by decide)
  have hsr : Sm v.rawFragment := Nat.le_trans hv.rawFragment (by decide)
  obtain ⟨raw, HRA⟩ : ∃ x, Hid (v.rawFragment = x) := ⟨_, rfl⟩
  obtain ⟨pa, HPA⟩ : ∃ x, Hid (v.fragment = x) := ⟨_, rfl⟩
  have HV : Hid (S (if U.kept? 3 (L raw) (L pa) then L raw else U.esc 3 (L pa)) = r) := by
    rw [← HR.out, ← HRA.out, ← HPA.out]
    exact Lib.hid rfl
  rw [HPA.out] at c4 hsp
  rw [HRA.out] at c7 hsr
  obtain ⟨o, HO⟩ : ∃ o, Hid (U.unesc 3 (L raw) = o) := ⟨_, rfl⟩
  obtain ⟨k, HK⟩ : ∃ o, Hid (U.kept 3 (L raw) = o) := ⟨_, rfl⟩
  have cu := i_un_frag raw W hsr hT
  rw [HO.out] at cu
  have CU := Lib.hid cu
  clear h1 h2 hT hv HR HRA HPA cu
  by_cases hA : U.kept? 3 (L raw) (L pa) = true
  · have hr : r = raw := by rw [← HV.out, if_pos hA, U.S_L]
    subst hr
    simp only [U.kept?, Bool.and_eq_true, beq_iff_eq, Bool.not_eq_true'] at hA
    obtain ⟨⟨h1, h2⟩, h3⟩ := hA
    have hne : (r.toList == []) = false := by rw [U.toList_L]; cases h : L r with
      | nil => rw [h] at h1; simp at h1
      | cons a b => rfl
    obtain rfl : k = true := by rw [← HK.out, h2]
    obtain rfl : o = some (L pa) := by rw [← HO.out, h3]
    clear h1 h2 h3
    go_enter Tryz.func46, Tryz.ntmps46
    go_wp2_with fail
    refine (i_kept r 3 64 true _ hsr HT.out rfl HK).mono ?_
    rintro e w1 ⟨rfl, rfl⟩
    go_wp2_with fail
    refine CU.out.mono ?_
    rintro e w1 ⟨b1, rfl⟩
    have hb := b1.cell (p := ⟨g, 5, none⟩) hlt
    rw [c4] at hb
    have hb7 := b1.cell (p := ⟨g, 8, none⟩) hlt
    rw [c7] at hb7
    have B1 := Lib.hid b1
    clear b1 c4 c7
    rw [U.S_L]
    go_wp2_with fail
    go_ret
    exact ⟨rfl, B1.out⟩
  · have HV2 : Hid (S (U.esc 3 (L pa)) = r) := by rw [← HV.out, if_neg hA]; exact Lib.hid rfl
    clear HV
    by_cases hr : L raw = []
    · have h1 : raw.toList = [] := by rw [U.toList_L]; exact hr
      clear hr hA HO HK CU
      go_enter Tryz.func46, Tryz.ntmps46
      go_wp2_with fail
      refine (i_escape pa 3 64 _ hsp HT.out rfl rfl).mono ?_
      rintro e w2 ⟨rfl, b2⟩
      rw [HV2.out]
      go_wp2_with fail
      go_ret
      exact ⟨rfl, b2⟩
    have h1 : (raw.toList == []) = false := by rw [U.toList_L]; simpa using hr
    have HNE : Hid (¬ L raw = []) := Lib.hid hr
    clear hr
    cases k
    · clear hA HO CU
      go_enter Tryz.func46, Tryz.ntmps46
      go_wp2_with fail
      refine (i_kept raw 3 64 false _ hsr HT.out rfl HK).mono ?_
      rintro e w1 ⟨rfl, rfl⟩
      go_wp2_with fail
      refine (i_escape pa 3 64 _ hsp HT.out rfl rfl).mono ?_
      rintro e w2 ⟨rfl, b2⟩
      rw [HV2.out]
      go_wp2_with fail
      go_ret
      exact ⟨rfl, b2⟩
    cases o with
    | none =>
      clear hA HO
      go_enter Tryz.func46, Tryz.ntmps46
      go_wp2_with fail
      refine (i_kept raw 3 64 true _ hsr HT.out rfl HK).mono ?_
      rintro e w1 ⟨rfl, rfl⟩
      go_wp2_with fail
      refine CU.out.mono ?_
      rintro e w1 ⟨b1, x, hx, rfl⟩
      obtain ⟨t, y, rfl⟩ := hx
      have hb := b1.cell (p := ⟨g, 5, none⟩) hlt
      rw [c4] at hb
      have B1 := Lib.hid b1
      clear b1 c4
      go_wp2_with fail
      refine (i_escape pa 3 64 _ hsp (HT.out.below B1.out) rfl rfl).mono ?_
      rintro e w2 ⟨rfl, b2⟩
      rw [HV2.out]
      go_wp2_with fail
      go_ret
      exact ⟨rfl, B1.out.trans (b2.mono B1.out.size)⟩
    | some p =>
      have hp : ((S p).toList == pa.toList) = false := by
        rw [U.toList_L, U.toList_L, U.L_S, beq_eq_false_iff_ne]
        intro e
        apply hA
        simp only [U.kept?, Bool.and_eq_true, beq_iff_eq, Bool.not_eq_true']
        refine ⟨⟨?_, HK.out⟩, by rw [HO.out, e]⟩
        cases h : L raw with
        | nil => exact absurd h HNE.out
        | cons a b => rfl
      clear hA HO
      go_enter Tryz.func46, Tryz.ntmps46
      go_wp2_with fail
      refine (i_kept raw 3 64 true _ hsr HT.out rfl HK).mono ?_
      rintro e w1 ⟨rfl, rfl⟩
      go_wp2_with fail
      refine CU.out.mono ?_
      rintro e w1 ⟨b1, rfl⟩
      have hb := b1.cell (p := ⟨g, 5, none⟩) hlt
      rw [c4] at hb
      have B1 := Lib.hid b1
      clear b1 c4
      go_wp2_with fail
      refine (i_escape pa 3 64 _ hsp (HT.out.below B1.out) rfl rfl).mono ?_
      rintro e w2 ⟨rfl, b2⟩
      rw [HV2.out]
      go_wp2_with fail
      go_ret
      exact ⟨rfl, B1.out.trans (b2.mono B1.out.size)⟩
end Go.Proofs.YtphkohpphdcjhaaGreatDoor
