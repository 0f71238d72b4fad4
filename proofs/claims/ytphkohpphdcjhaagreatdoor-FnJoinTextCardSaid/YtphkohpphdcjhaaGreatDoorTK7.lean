/- The library at this translation; escapes taken away. -/
import Derived.Test.YtphkohpphdcjhaaGreatDoorProg
import Derived.Shelf.Strings.Builder1
import Derived.Shelf.Strings.Builder2
import Derived.Shelf.Strings.OnBuilder
import Derived.Shelf.Strings.LastIndex
import Derived.Shelf.Strings.Prefix
import Derived.Test.YtphkohpphdcjhaaGreatDoorTK6
import Derived.StillTailTactics
import Derived.IntWalk
namespace Go.Proofs
open Go.Shelf

def Tryz.lays170_ren : Go.Shelf.Ren := ⟨fun | 170 => 80 | n => n, fun | 70 => 90 | 3 => 3 | 0 => 0 | 72 => 92 | 37 => 70 | 5 => 5 | n => n, fun | n => n⟩
theorem Tryz.lays170 : Go.Proofs.Lays.n170 Tryz.prog Tryz.lays170_ren := {
  mixed := by kernel_rfl
  f170 := Tryz.func80.trans (congrArg some (by kernel_rfl))
  t0 := Tryz.underlying0
  a0 := Tryz.isAgg0
  z0 := Tryz.sizeOf0
  v0 := Tryz.zeroValue0
  t3 := Tryz.underlying3
  a3 := Tryz.isAgg3
  z3 := Tryz.sizeOf3
  v3 := Tryz.zeroValue3
  t37 := Tryz.underlying70
  a37 := Tryz.isAgg70
  z37 := Tryz.sizeOf70
  v37 := Tryz.zeroValue70
  t70 := Tryz.underlying90
  a70 := Tryz.isAgg90
  z70 := Tryz.sizeOf90
  v70 := Tryz.zeroValue90
  t72 := Tryz.underlying92
  a72 := Tryz.isAgg92
  z72 := Tryz.sizeOf92
  v72 := Tryz.zeroValue92 }
open Go.RowKit in
theorem Tryz.Builder_Len (B b : Nat) (bs : List Value) (w : World) (h : Lib.IsBuilder 92 5 B b bs w) :
    Calls Tryz.prog 80 #[.pointer (some ⟨b, 0, none⟩)] w fun e w' => e = .returned (.int .i64 bs.length) ∧ w' = w := Any.Builder_Len Tryz.lays170 B b bs w h
def Tryz.lays159_ren : Go.Shelf.Ren := ⟨fun | 159 => 93 | 165 => 76 | 166 => 77 | 167 => 78 | 169 => 82 | 230 => 107 | 204 => 108 | 240 => 102 | 241 => 103 | 197 => 118 | 118 => 119 | 168 => 120 | 270 => 121 | 262 => 122 | 276 => 112 | 277 => 113 | 260 => 130 | 242 => 131 | 313 => 132 | 278 => 135 | 274 => 136 | 275 => 137 | n => n, fun | 9 => 9 | 4 => 4 | 3 => 3 | 5 => 5 | 72 => 92 | 0 => 0 | 76 => 94 | 75 => 51 | 107 => 120 | 70 => 90 | 20 => 20 | 37 => 70 | 127 => 113 | 21 => 21 | 105 => 126 | 164 => 123 | 162 => 154 | 203 => 152 | 119 => 158 | 46 => 73 | 139 => 161 | 138 => 160 | 51 => 144 | 160 => 162 | 208 => 175 | 206 => 173 | 80 => 56 | n => n, fun | 13 => 2 | 3 => 4 | 4 => 5 | n => n⟩
theorem Tryz.lays159 : Go.Proofs.Lays.n159 Tryz.prog Tryz.lays159_ren := {
  mixed := by kernel_rfl
  f118 := Tryz.func119.trans (congrArg some (by kernel_rfl))
  f159 := Tryz.func93.trans (congrArg some (by kernel_rfl))
  f165 := Tryz.func76.trans (congrArg some (by kernel_rfl))
  f166 := Tryz.func77.trans (congrArg some (by kernel_rfl))
  f167 := Tryz.func78.trans (congrArg some (by kernel_rfl))
  f168 := Tryz.func120.trans (congrArg some (by kernel_rfl))
  f169 := Tryz.func82.trans (congrArg some (by kernel_rfl))
  f197 := Tryz.func118.trans (congrArg some (by kernel_rfl))
  f204 := Tryz.func108.trans (congrArg some (by kernel_rfl))
  f230 := Tryz.func107.trans (congrArg some (by kernel_rfl))
  f240 := Tryz.func102.trans (congrArg some (by kernel_rfl))
  f241 := Tryz.func103.trans (congrArg some (by kernel_rfl))
  f242 := Tryz.func131.trans (congrArg some (by kernel_rfl))
  f260 := Tryz.func130.trans (congrArg some (by kernel_rfl))
  f262 := Tryz.func122.trans (congrArg some (by kernel_rfl))
  f270 := Tryz.func121.trans (congrArg some (by kernel_rfl))
  f274 := Tryz.func136.trans (congrArg some (by kernel_rfl))
  f275 := Tryz.func137.trans (congrArg some (by kernel_rfl))
  f276 := Tryz.func112.trans (congrArg some (by kernel_rfl))
  f277 := Tryz.func113.trans (congrArg some (by kernel_rfl))
  f278 := Tryz.func135.trans (congrArg some (by kernel_rfl))
  f313 := Tryz.func132.trans (congrArg some (by kernel_rfl))
  t0 := Tryz.underlying0
  a0 := Tryz.isAgg0
  z0 := Tryz.sizeOf0
  v0 := Tryz.zeroValue0
  t3 := Tryz.underlying3
  a3 := Tryz.isAgg3
  z3 := Tryz.sizeOf3
  v3 := Tryz.zeroValue3
  t4 := Tryz.underlying4
  a4 := Tryz.isAgg4
  z4 := Tryz.sizeOf4
  v4 := Tryz.zeroValue4
  t5 := Tryz.underlying5
  a5 := Tryz.isAgg5
  z5 := Tryz.sizeOf5
  v5 := Tryz.zeroValue5
  t9 := Tryz.underlying9
  a9 := Tryz.isAgg9
  z9 := Tryz.sizeOf9
  v9 := Tryz.zeroValue9
  t20 := Tryz.underlying20
  a20 := Tryz.isAgg20
  z20 := Tryz.sizeOf20
  v20 := Tryz.zeroValue20
  t21 := Tryz.underlying21
  a21 := Tryz.isAgg21
  z21 := Tryz.sizeOf21
  v21 := Tryz.zeroValue21
  t37 := Tryz.underlying70
  a37 := Tryz.isAgg70
  z37 := Tryz.sizeOf70
  v37 := Tryz.zeroValue70
  t46 := Tryz.underlying73
  a46 := Tryz.isAgg73
  z46 := Tryz.sizeOf73
  v46 := Tryz.zeroValue73
  t51 := Tryz.underlying144
  a51 := Tryz.isAgg144
  z51 := Tryz.sizeOf144
  v51 := Tryz.zeroValue144
  t70 := Tryz.underlying90
  a70 := Tryz.isAgg90
  z70 := Tryz.sizeOf90
  v70 := Tryz.zeroValue90
  t72 := Tryz.underlying92
  a72 := Tryz.isAgg92
  z72 := Tryz.sizeOf92
  v72 := Tryz.zeroValue92
  t75 := Tryz.underlying51
  a75 := Tryz.isAgg51
  z75 := Tryz.sizeOf51
  v75 := Tryz.zeroValue51
  t76 := Tryz.underlying94
  a76 := Tryz.isAgg94
  z76 := Tryz.sizeOf94
  v76 := Tryz.zeroValue94
  t105 := Tryz.underlying126
  a105 := Tryz.isAgg126
  z105 := Tryz.sizeOf126
  v105 := Tryz.zeroValue126
  t107 := Tryz.underlying120
  a107 := Tryz.isAgg120
  z107 := Tryz.sizeOf120
  v107 := Tryz.zeroValue120
  t119 := Tryz.underlying158
  a119 := Tryz.isAgg158
  z119 := Tryz.sizeOf158
  t127 := Tryz.underlying113
  a127 := Tryz.isAgg113
  z127 := Tryz.sizeOf113
  v127 := Tryz.zeroValue113
  t138 := Tryz.underlying160
  a138 := Tryz.isAgg160
  z138 := Tryz.sizeOf160
  v138 := Tryz.zeroValue160
  t139 := Tryz.underlying161
  a139 := Tryz.isAgg161
  z139 := Tryz.sizeOf161
  v139 := Tryz.zeroValue161
  t160 := Tryz.underlying162
  a160 := Tryz.isAgg162
  z160 := Tryz.sizeOf162
  v160 := Tryz.zeroValue162
  t162 := Tryz.underlying154
  a162 := Tryz.isAgg154
  z162 := Tryz.sizeOf154
  v162 := Tryz.zeroValue154
  t164 := Tryz.underlying123
  a164 := Tryz.isAgg123
  z164 := Tryz.sizeOf123
  v164 := Tryz.zeroValue123
  t203 := Tryz.underlying152
  a203 := Tryz.isAgg152
  z203 := Tryz.sizeOf152
  v203 := Tryz.zeroValue152
  t206 := Tryz.underlying173
  a206 := Tryz.isAgg173
  z206 := Tryz.sizeOf173
  v206 := Tryz.zeroValue173
  t208 := Tryz.underlying175
  a208 := Tryz.isAgg175
  z208 := Tryz.sizeOf175
  v208 := Tryz.zeroValue175
  g3 := by kernel_rfl
  g4 := by kernel_rfl
  g13 := by kernel_rfl }
theorem Tryz.Builder_Extra_159 : Builder.Extra Tryz.prog Tryz.lays159_ren := {
  sizeBuilder := by kernel_rfl
  liesBuilder := by kernel_rfl
  t5 := Tryz.underlying5
  a5 := Tryz.isAgg5
  z5 := Tryz.sizeOf5
  v5 := Tryz.zeroValue5
  infoByte := by kernel_rfl
  cellsByte := by kernel_rfl
  sizeByte := by kernel_rfl
  neB5 := by decide }
open Go.RowKit in
theorem Tryz.strings_ToLower_ascii (s : ByteArray) (w : World) (hs : s.size ≤ 140737488355328) (hascii : ∀ (j : Nat) (b : UInt8), s.data.toList[j]? = some b → b.toNat < 128) :
    Calls Tryz.prog 93 #[.string s] w fun e w' => e = .returned (.string ⟨(Lib.toLowerA s.data.toList).toArray⟩) ∧ Below w.heap.size w w' := Any.strings_ToLower_ascii Tryz.lays159 Tryz.Builder_Extra_159 s w hs hascii
def Tryz.lays148_ren : Go.Shelf.Ren := ⟨fun | 148 => 104 | 222 => 114 | 223 => 115 | 269 => 126 | n => n, fun | 9 => 9 | 3 => 3 | 4 => 4 | 5 => 5 | 146 => 145 | 51 => 144 | 46 => 73 | n => n, fun | n => n⟩
theorem Tryz.lays148 : Go.Proofs.Lays.n148 Tryz.prog Tryz.lays148_ren := {
  mixed := by kernel_rfl
  f148 := Tryz.func104.trans (congrArg some (by kernel_rfl))
  f222 := Tryz.func114.trans (congrArg some (by kernel_rfl))
  f223 := Tryz.func115.trans (congrArg some (by kernel_rfl))
  f269 := Tryz.func126.trans (congrArg some (by kernel_rfl))
  t3 := Tryz.underlying3
  a3 := Tryz.isAgg3
  z3 := Tryz.sizeOf3
  v3 := Tryz.zeroValue3
  t4 := Tryz.underlying4
  a4 := Tryz.isAgg4
  z4 := Tryz.sizeOf4
  v4 := Tryz.zeroValue4
  t5 := Tryz.underlying5
  a5 := Tryz.isAgg5
  z5 := Tryz.sizeOf5
  v5 := Tryz.zeroValue5
  t9 := Tryz.underlying9
  a9 := Tryz.isAgg9
  z9 := Tryz.sizeOf9
  v9 := Tryz.zeroValue9
  t46 := Tryz.underlying73
  a46 := Tryz.isAgg73
  z46 := Tryz.sizeOf73
  v46 := Tryz.zeroValue73
  t51 := Tryz.underlying144
  a51 := Tryz.isAgg144
  z51 := Tryz.sizeOf144
  v51 := Tryz.zeroValue144
  t146 := Tryz.underlying145
  a146 := Tryz.isAgg145
  z146 := Tryz.sizeOf145
  v146 := Tryz.zeroValue145 }
open Go.RowKit Go.Lib in
theorem Tryz.strings_LastIndex_one (s sub : ByteArray) (h1 : sub.size = 1) (hs : s.size < 4611686018427387904) (w : World) :
    Calls Tryz.prog 104 #[.string s, .string sub] w fun e w' => e = .returned (.int .i64 (Lib.lastIndexByte s ((sub[0]'(by omega)).toNat : Int))) ∧ w' = w := Any.strings_LastIndex_one Tryz.lays148 s sub h1 hs w
def Tryz.lays206_ren : Go.Shelf.Ren := ⟨fun | 206 => 101 | n => n, fun | 9 => 9 | 4 => 4 | 3 => 3 | n => n, fun | n => n⟩
theorem Tryz.lays206 : Go.Proofs.Lays.n206 Tryz.prog Tryz.lays206_ren := {
  mixed := by kernel_rfl
  f206 := Tryz.func101.trans (congrArg some (by kernel_rfl))
  t3 := Tryz.underlying3
  a3 := Tryz.isAgg3
  z3 := Tryz.sizeOf3
  v3 := Tryz.zeroValue3
  t4 := Tryz.underlying4
  a4 := Tryz.isAgg4
  z4 := Tryz.sizeOf4
  v4 := Tryz.zeroValue4
  t9 := Tryz.underlying9
  a9 := Tryz.isAgg9
  z9 := Tryz.sizeOf9
  v9 := Tryz.zeroValue9 }
open Go.RowKit Go.Lib in
theorem Tryz.stringslite_HasPrefix (s p : ByteArray) (w : World) :
    Calls Tryz.prog 101 #[.string s, .string p] w fun e w' => e = .returned (.bool (Lib.hasPrefix s.data.toList p.data.toList)) ∧ w' = w := Any.stringslite_HasPrefix Tryz.lays206 s p w
def Tryz.lays99_ren : Go.Shelf.Ren := ⟨fun | 99 => 75 | 206 => 101 | n => n, fun | 9 => 9 | 4 => 4 | 3 => 3 | n => n, fun | n => n⟩
theorem Tryz.lays99 : Go.Proofs.Lays.n99 Tryz.prog Tryz.lays99_ren := {
  mixed := by kernel_rfl
  f99 := Tryz.func75.trans (congrArg some (by kernel_rfl))
  f206 := Tryz.func101.trans (congrArg some (by kernel_rfl))
  t3 := Tryz.underlying3
  a3 := Tryz.isAgg3
  z3 := Tryz.sizeOf3
  v3 := Tryz.zeroValue3
  t4 := Tryz.underlying4
  a4 := Tryz.isAgg4
  z4 := Tryz.sizeOf4
  v4 := Tryz.zeroValue4
  t9 := Tryz.underlying9
  a9 := Tryz.isAgg9
  z9 := Tryz.sizeOf9
  v9 := Tryz.zeroValue9 }
open Go.RowKit Go.Lib in
theorem Tryz.strings_HasPrefix (s p : ByteArray) (w : World) :
    Calls Tryz.prog 75 #[.string s, .string p] w fun e w' => e = .returned (.bool (Lib.hasPrefix s.data.toList p.data.toList)) ∧ w' = w := Any.strings_HasPrefix Tryz.lays99 s p w
def Tryz.lays207_ren : Go.Shelf.Ren := ⟨fun | 207 => 109 | n => n, fun | 9 => 9 | 4 => 4 | 3 => 3 | n => n, fun | n => n⟩
theorem Tryz.lays207 : Go.Proofs.Lays.n207 Tryz.prog Tryz.lays207_ren := {
  mixed := by kernel_rfl
  f207 := Tryz.func109.trans (congrArg some (by kernel_rfl))
  t3 := Tryz.underlying3
  a3 := Tryz.isAgg3
  z3 := Tryz.sizeOf3
  v3 := Tryz.zeroValue3
  t4 := Tryz.underlying4
  a4 := Tryz.isAgg4
  z4 := Tryz.sizeOf4
  v4 := Tryz.zeroValue4
  t9 := Tryz.underlying9
  a9 := Tryz.isAgg9
  z9 := Tryz.sizeOf9
  v9 := Tryz.zeroValue9 }
open Go.RowKit Go.Lib in
theorem Tryz.stringslite_HasSuffix (s p : ByteArray) (w : World) (hs : s.size ≤ 9223372036854775807) :
    Calls Tryz.prog 109 #[.string s, .string p] w fun e w' => e = .returned (.bool (Lib.hasSuffix s.data.toList p.data.toList)) ∧ w' = w := Any.stringslite_HasSuffix Tryz.lays207 s p w hs
def Tryz.lays100_ren : Go.Shelf.Ren := ⟨fun | 100 => 94 | 207 => 109 | n => n, fun | 9 => 9 | 4 => 4 | 3 => 3 | n => n, fun | n => n⟩
theorem Tryz.lays100 : Go.Proofs.Lays.n100 Tryz.prog Tryz.lays100_ren := {
  mixed := by kernel_rfl
  f100 := Tryz.func94.trans (congrArg some (by kernel_rfl))
  f207 := Tryz.func109.trans (congrArg some (by kernel_rfl))
  t3 := Tryz.underlying3
  a3 := Tryz.isAgg3
  z3 := Tryz.sizeOf3
  v3 := Tryz.zeroValue3
  t4 := Tryz.underlying4
  a4 := Tryz.isAgg4
  z4 := Tryz.sizeOf4
  v4 := Tryz.zeroValue4
  t9 := Tryz.underlying9
  a9 := Tryz.isAgg9
  z9 := Tryz.sizeOf9
  v9 := Tryz.zeroValue9 }
open Go.RowKit Go.Lib in
theorem Tryz.strings_HasSuffix (s p : ByteArray) (w : World) (hs : s.size ≤ 9223372036854775807) :
    Calls Tryz.prog 94 #[.string s, .string p] w fun e w' => e = .returned (.bool (Lib.hasSuffix s.data.toList p.data.toList)) ∧ w' = w := Any.strings_HasSuffix Tryz.lays100 s p w hs
theorem Tryz.lays166 : Go.Proofs.Lays.n166 Tryz.prog Tryz.lays159_ren := { Tryz.lays159 with }
theorem Tryz.lays167 : Go.Proofs.Lays.n167 Tryz.prog Tryz.lays159_ren := { Tryz.lays159 with }
theorem Tryz.lays165 : Go.Proofs.Lays.n165 Tryz.prog Tryz.lays159_ren := { Tryz.lays159 with }
theorem Tryz.lays169 : Go.Proofs.Lays.n169 Tryz.prog Tryz.lays159_ren := { Tryz.lays159 with }
open Go.RowKit in
theorem Tryz.Builder_WriteByte (B b : Nat) (bs : List Value) (c : Int) (w : World) (h : Lib.IsBuilder 92 5 B b bs w) (hlen : bs.length + 1 ≤ 140737488355328) (hBw : B ≤ w.heap.size) :
    Calls Tryz.prog 78 #[.pointer (some ⟨b, 0, none⟩), .int .u8 c] w fun e w' => e = .returned .nilIface ∧ (Lib.BuilderAt 92 5 B b (.pointer (some ⟨b, 0, none⟩)) (bs ++ [.int .u8 c]) w' ∧ Below B w w') := Any.Builder_WriteByte Tryz.lays167 Tryz.Builder_Extra_159 B b bs c w h hlen hBw
open Go.RowKit in
theorem Tryz.Builder_WriteString (B b : Nat) (bs : List Value) (s : ByteArray) (w : World) (h : Lib.IsBuilder 92 5 B b bs w) (hlen : bs.length + s.size ≤ 140737488355328) (hBw : B ≤ w.heap.size) :
    Calls Tryz.prog 77 #[.pointer (some ⟨b, 0, none⟩), .string s] w fun e w' => e = .returned (.tuple #[.int .i64 s.size, .nilIface]) ∧ (Lib.BuilderAt 92 5 B b (.pointer (some ⟨b, 0, none⟩)) (bs ++ Lib.strCells s) w' ∧ Below B w w') := Any.Builder_WriteString Tryz.lays166 Tryz.Builder_Extra_159 B b bs s w h hlen hBw
open Go.RowKit in
theorem Tryz.Builder_String_any (B b : Nat) (l : List UInt8) (w : World) (h : Lib.IsBuilder 92 5 B b (Lib.byteCells l) w) (hBw : B ≤ w.heap.size) :
    Calls Tryz.prog 82 #[.pointer (some ⟨b, 0, none⟩)] w fun e w' => e = .returned (.string ⟨l.toArray⟩) ∧ Below B w w' := Any.Builder_String_any Tryz.lays169 Tryz.Builder_Extra_159 B b l w h hBw
open Go.RowKit in
theorem Tryz.Builder_Grow_fresh (B b n : Nat) (w : World) (hB : B ≤ b) (hbk : w.heap[b]? = some (.cells #[.pointer none, .slice none 0 0] 92 (0, 0))) (hBw : B ≤ w.heap.size) (hn : n ≤ 281474976710656) :
    Calls Tryz.prog 76 #[.pointer (some ⟨b, 0, none⟩), .int .i64 n] w fun e w' => e = .returned (.tuple #[]) ∧ (Lib.BuilderAt 92 5 B b (.pointer (some ⟨b, 0, none⟩)) [] w' ∧ Below B w w') := Any.Builder_Grow_fresh Tryz.lays165 Tryz.Builder_Extra_159 B b n w hB hbk hBw hn
end Go.Proofs
namespace Go.Proofs.YtphkohpphdcjhaaGreatDoor
open Go.RowKit Go.Proofs.YtphkohpphdcjhaaGreatDoorW.PrintWords
open U (L S)

/-- What unescape hands back. -/
def UnPost (w : World) (o : Option U.B) (e : Ending) (w' : World) : Prop :=
  Below w.heap.size w w' ∧ match o with
  | some l => e = .returned (.tuple #[.string (S l), .nilIface])
  | none => ∃ v, IsErr v ∧ e = .returned (.tuple #[.string E, v])

theorem un_end (w : Nat) (s : ByteArray) (k : Nat) (h : ¬ k < s.size) : U.unesc w ((L s).drop k) = some [] := by
  rw [List.drop_eq_nil_of_le (by rw [U.len_L]; omega)]
  rfl
theorem un_byte (w : Nat) (s : ByteArray) (k : Nat) (h : k < s.size) (h37 : ¬ (s[k]'h).toNat = 37) :
    U.unesc w ((L s).drop k) = if U.stands w (s[k]'h) = true then (U.unesc w ((L s).drop (k + 1))).map ((s[k]'h) :: ·) else none := by
  rw [U.drop_at _ _ (by rw [U.len_L]; exact h)]
  show U.unesc w ((s[k]'h) :: _) = _
  conv => lhs; unfold U.unesc
  rw [if_neg h37]
theorem un_short (w : Nat) (s : ByteArray) (k : Nat) (h : k < s.size) (h2 : ¬ k + 2 < s.size) (h37 : (s[k]'h).toNat = 37) : U.unesc w ((L s).drop k) = none := by
  rw [U.drop_at _ _ (by rw [U.len_L]; exact h)]
  show U.unesc w ((s[k]'h) :: _) = _
  unfold U.unesc
  rw [if_pos h37]
  by_cases h1 : k + 1 < s.size
  · rw [U.drop_at _ _ (by rw [U.len_L]; exact h1), List.drop_eq_nil_of_le (by rw [U.len_L]; omega)]
  · rw [List.drop_eq_nil_of_le (by rw [U.len_L]; omega)]
theorem un_pct (w : Nat) (s : ByteArray) (k : Nat) (h2 : k + 2 < s.size) (h37 : (s[k]'(by omega)).toNat = 37) :
    U.unesc w ((L s).drop k) =
      if U.hexv (s[k + 1]'(by omega)) < 0 ∨ U.hexv (s[k + 2]'h2) < 0 then none
      else if U.escapes w (U.hexv (s[k + 1]'(by omega)) * 16 + U.hexv (s[k + 2]'h2)) = true then (U.unesc w ((L s).drop (k + 3))).map (UInt8.ofNat (U.hexv (s[k + 1]'(by omega)) * 16 + U.hexv (s[k + 2]'h2)).toNat :: ·) else none := by
  rw [U.drop_at _ _ (show k < (L s).length by rw [U.len_L]; omega), U.drop_at _ _ (show k + 1 < (L s).length by rw [U.len_L]; omega), U.drop_at _ _ (show k + 2 < (L s).length by rw [U.len_L]; omega)]
  show U.unesc w ((s[k]'(by omega)) :: (s[k + 1]'(by omega)) :: (s[k + 2]'h2) :: _) = _
  rw [U.unesc, if_pos h37]

/-- How far the first look has come: n escapes within the first k bytes. -/
def Scan (w : Nat) (s : ByteArray) (o : Option U.B) (k n : Nat) : Prop :=
  3 * n ≤ k ∧ (n = 0 → o = (U.unesc w ((L s).drop k)).map ((L s).take k ++ ·)) ∧ (U.unesc w ((L s).drop k)).isSome = o.isSome
theorem Scan.start (w : Nat) (s : ByteArray) (o : Option U.B) (h : U.unesc w (L s) = o) : Scan w s o 0 0 := by
  refine ⟨Nat.le_refl _, fun _ => ?_, ?_⟩
  · simp [h]
  · simp [h]
theorem Scan.byte {w : Nat} {s : ByteArray} {o : Option U.B} {k n : Nat} (h : Scan w s o k n) (hk : k < s.size) (h37 : ¬ (s[k]'hk).toNat = 37) (hst : U.stands w (s[k]'hk) = true) : Scan w s o (k + 1) n := by
  obtain ⟨h1, h2, h3⟩ := h
  have e := un_byte w s k hk h37
  rw [if_pos hst] at e
  refine ⟨by omega, fun hn => ?_, ?_⟩
  · rw [h2 hn, e, Option.map_map]
    congr 1
    funext x
    show (L s).take k ++ (s[k]'hk :: x) = (L s).take (k + 1) ++ x
    rw [U.take_at (L s) k (by rw [U.len_L]; exact hk), List.append_assoc]
    rfl
  · rw [← h3, e, Option.isSome_map]
theorem Scan.pct {w : Nat} {s : ByteArray} {o : Option U.B} {k n : Nat} (h : Scan w s o k n) (h2 : k + 2 < s.size) (h37 : (s[k]'(by omega)).toNat = 37)
    (ha : ¬ U.hexv (s[k + 1]'(by omega)) < 0) (hb : ¬ U.hexv (s[k + 2]'h2) < 0) (he : U.escapes w (U.hexv (s[k + 1]'(by omega)) * 16 + U.hexv (s[k + 2]'h2)) = true) : Scan w s o (k + 3) (n + 1) := by
  obtain ⟨h1, _, h3⟩ := h
  have e := un_pct w s k h2 h37
  rw [if_neg (by omega), if_pos he] at e
  exact ⟨by omega, fun hn => by omega, by rw [← h3, e, Option.isSome_map]⟩
theorem Scan.none {w : Nat} {s : ByteArray} {o : Option U.B} {k n : Nat} (h : Scan w s o k n) (e : U.unesc w ((L s).drop k) = none) : o = none := by
  have := h.2.2
  rw [e] at this
  cases o
  · rfl
  · exact absurd this (by simp)
/-- How far the second look has come. -/
def Reads (w : Nat) (s : ByteArray) (out acc : U.B) (k : Nat) : Prop := acc.length ≤ k ∧ ∃ r, U.unesc w ((L s).drop k) = some r ∧ acc ++ r = out
theorem Reads.byte {w : Nat} {s : ByteArray} {out acc : U.B} {k : Nat} (h : Reads w s out acc k) (hk : k < s.size) (h37 : ¬ (s[k]'hk).toNat = 37) : Reads w s out (acc ++ [s[k]'hk]) (k + 1) := by
  obtain ⟨h1, r, h2, h3⟩ := h
  rw [un_byte w s k hk h37] at h2
  split at h2
  · obtain ⟨r', h4, h5⟩ := Option.map_eq_some_iff.1 h2
    subst h5
    exact ⟨by simp; omega, r', h4, by rw [← h3]; simp⟩
  · exact absurd h2 (by simp)
theorem Reads.two {w : Nat} {s : ByteArray} {out acc : U.B} {k : Nat} (h : Reads w s out acc k) (hk : k < s.size) (h37 : (s[k]'hk).toNat = 37) : k + 2 < s.size := by
  obtain ⟨h1, r, h2, h3⟩ := h
  by_cases h4 : k + 2 < s.size
  · exact h4
  · rw [un_short w s k hk h4 h37] at h2
    exact absurd h2 (by simp)
theorem Reads.pct {w : Nat} {s : ByteArray} {out acc : U.B} {k : Nat} (h : Reads w s out acc k) (h2 : k + 2 < s.size) (h37 : (s[k]'(by omega)).toNat = 37) :
    ¬ U.hexv (s[k + 1]'(by omega)) < 0 ∧ ¬ U.hexv (s[k + 2]'h2) < 0 ∧ Reads w s out (acc ++ [UInt8.ofNat (U.hexv (s[k + 1]'(by omega)) * 16 + U.hexv (s[k + 2]'h2)).toNat]) (k + 3) := by
  obtain ⟨h1, r, h3, h4⟩ := h
  rw [un_pct w s k h2 h37] at h3
  split at h3
  · exact absurd h3 (by simp)
  · rename_i hx
    split at h3
    · obtain ⟨r', h5, h6⟩ := Option.map_eq_some_iff.1 h3
      subst h6
      exact ⟨by omega, by omega, by simp; omega, r', h5, by rw [← h4]; simp⟩
    · exact absurd h3 (by simp)
theorem Reads.end {w : Nat} {s : ByteArray} {out acc : U.B} {k : Nat} (h : Reads w s out acc k) (hk : ¬ k < s.size) : acc = out := by
  obtain ⟨h1, r, h2, h3⟩ := h
  rw [un_end w s k hk] at h2
  cases h2
  simpa using h3
theorem hex_lt (c : UInt8) : U.hexv c < 16 := by
  have h : ∀ n, n < 256 → U.hexv (UInt8.ofNat n) < 16 := by decide +kernel
  have := h c.toNat c.toNat_lt
  rwa [show UInt8.ofNat c.toNat = c by simp] at this
theorem hex_or (a b : Int) (ha : 0 ≤ a) (ha' : a < 16) (hb : 0 ≤ b) (hb' : b < 16) : Go.bits .or .u8 (IntKind.u8.wrap (a * 16)) b = a * 16 + b := by
  have h : ∀ m, m < 16 → ∀ n, n < 16 → Go.bits .or .u8 (IntKind.u8.wrap (((m : Nat) : Int) * 16)) ((n : Nat) : Int) = (m : Int) * 16 + n := by decide +kernel
  have := h a.toNat (by omega) b.toNat (by omega)
  rwa [show ((a.toNat : Nat) : Int) = a by omega, show ((b.toNat : Nat) : Int) = b by omega] at this

theorem grow0 (B : Nat) (n : Int) (w : World) (hn0 : 0 ≤ n) (hn : n ≤ 281474976710656) (hB : B = w.heap.size) (w1 : World) (h1 : w1 = w.alloc (.cells #[.pointer none, .slice none 0 0] 92)) :
    Calls Tryz.prog 76 #[.pointer (some ⟨B, 0, none⟩), .int .i64 n] w1 fun e w' => e = .returned (.tuple #[]) ∧ Lib.IsBuilder 92 5 B B (Lib.byteCells []) w' ∧ Below w.heap.size w w' := by
  subst hB h1
  obtain ⟨m, rfl⟩ : ∃ m : Nat, n = m := ⟨n.toNat, by omega⟩
  have hb := (Below.refl w.heap.size w).alloc (Nat.le_refl _) (.cells #[.pointer none, .slice none 0 0] 92)
  refine (Tryz.Builder_Grow_fresh w.heap.size w.heap.size m _ (Nat.le_refl _) (heap_alloc_new w _) (by simp) (by omega)).mono ?_
  rintro e w' ⟨rfl, h, b⟩
  exact ⟨rfl, Or.inr h, hb.trans b⟩
theorem wbyte (B b : Nat) (acc : U.B) (c : Int) (d : UInt8) (w W : World) (h : Lib.IsBuilder 92 5 B b (Lib.byteCells acc) w) (hlen : acc.length ≤ 10000000000) (hW : Below B W w) (hBw : B ≤ W.heap.size) (hc : c = d.toNat) :
    Calls Tryz.prog 78 #[.pointer (some ⟨b, 0, none⟩), .int .u8 c] w fun e w' => e = .returned .nilIface ∧ Lib.IsBuilder 92 5 B b (Lib.byteCells (acc ++ [d])) w' ∧ Below B W w' := by
  subst hc
  refine (Tryz.Builder_WriteByte B b _ _ w h (by rw [Lib.byteCells_length]; omega) (by have := hW.size; omega)).mono ?_
  rintro e w' ⟨rfl, h', b'⟩
  exact ⟨rfl, Or.inr (by rw [Lib.byteCells_append]; exact h'), hW.trans b'⟩
theorem wstring (B b : Nat) (acc : U.B) (s : ByteArray) (w W : World) (h : Lib.IsBuilder 92 5 B b (Lib.byteCells acc) w) (hlen : acc.length ≤ 10000000000) (hs : Sm s) (hW : Below B W w) (hBw : B ≤ W.heap.size) :
    Calls Tryz.prog 77 #[.pointer (some ⟨b, 0, none⟩), .string s] w fun e w' => e = .returned (.tuple #[.int .i64 s.size, .nilIface]) ∧ Lib.IsBuilder 92 5 B b (Lib.byteCells (acc ++ L s)) w' ∧ Below B W w' := by
  refine (Tryz.Builder_WriteString B b _ s w h (by rw [Lib.byteCells_length]; have : s.size ≤ 1000000000 := hs; omega) (by have := hW.size; omega)).mono ?_
  rintro e w' ⟨rfl, h', b'⟩
  exact ⟨rfl, Or.inr (by rw [Lib.byteCells_append]; exact h'), hW.trans b'⟩
theorem bstring (B b : Nat) (acc : U.B) (w W : World) (h : Lib.IsBuilder 92 5 B b (Lib.byteCells acc) w) (hW : Below B W w) (hBw : B ≤ W.heap.size) :
    Calls Tryz.prog 82 #[.pointer (some ⟨b, 0, none⟩)] w fun e w' => e = .returned (.string (S acc)) ∧ Below B W w' := by
  refine (Tryz.Builder_String_any B b acc w h (by have := hW.size; omega)).mono ?_
  rintro e w' ⟨rfl, b'⟩
  exact ⟨rfl, hW.trans b'⟩
end Go.Proofs.YtphkohpphdcjhaaGreatDoor
namespace Go.Proofs.YtphkohpphdcjhaaGreatDoor
open Go.RowKit Go.Proofs.YtphkohpphdcjhaaGreatDoorW.PrintWords
open U (L S)

theorem un_none {w w' : World} {o : Option U.B} (h : o = none) (v : Value) (hv : IsErr v) (b : Below w.heap.size w w') : UnPost w o (.returned (.tuple #[.string ⟨#[]⟩, v])) w' := by
  subst h
  exact ⟨b, v, hv, rfl⟩
theorem ishex_is (c : UInt8) (b : Bool) (H : Hid (isHex c = b)) : (b = true → ¬ U.hexv c < 0) ∧ (b = false → U.hexv c < 0) := by
  have := H.out
  unfold isHex at this
  subst this
  simp

theorem unhex_at (c : UInt8) (n r : Int) (W : World) (hn : n = (c.toNat : Int)) (hx : isHex c = true) (H : Hid (U.hexv c = r)) :
    Calls Tryz.prog 100 #[.int .u8 n] W fun e w' => e = .returned (.int .u8 r) ∧ w' = W :=
  (i_unhex c n r W hn hx H).mono fun _ _ h => ⟨h.1, h.2.symm⟩
theorem hex_2 (c : UInt8) : U.hexv c = 2 ↔ c = 50 := by
  have h : ∀ n, n < 256 → (U.hexv (UInt8.ofNat n) = 2 ↔ UInt8.ofNat n = 50) := by decide +kernel
  have := h c.toNat c.toNat_lt
  rwa [show UInt8.ofNat c.toNat = c by simp] at this
theorem hex_5 (c : UInt8) : U.hexv c = 5 ↔ c = 53 := by
  have h : ∀ n, n < 256 → (U.hexv (UInt8.ofNat n) = 5 ↔ UInt8.ofNat n = 53) := by decide +kernel
  have := h c.toNat c.toNat_lt
  rwa [show UInt8.ofNat c.toNat = c by simp] at this
theorem slice3 (s : ByteArray) (k : Nat) (h2 : k + 2 < s.size) (h37 : (s[k]'(by omega)).toNat = 37) (_ha : 0 ≤ U.hexv (s[k + 1]'(by omega))) (hb : 0 ≤ U.hexv (s[k + 2]'h2)) :
    ((s.extract k (k + 3)).toList == [37, 50, 53]) = decide (U.hexv (s[k + 1]'(by omega)) * 16 + U.hexv (s[k + 2]'h2) = 37) := by
  rw [U.toList_L, U.ext_S, U.L_S, U.drop_at _ _ (show k < (L s).length by rw [U.len_L]; omega), U.drop_at _ _ (show k + 1 < (L s).length by rw [U.len_L]; omega), U.drop_at _ _ (show k + 2 < (L s).length by rw [U.len_L]; omega),
    show k + 3 - k = 3 by omega, List.take_succ_cons, List.take_succ_cons, List.take_succ_cons, List.take_zero]
  show ([s[k]'(by omega), s[k + 1]'(by omega), s[k + 2]'h2] == [37, 50, 53]) = _
  have h0 : s[k]'(by omega) = 37 := UInt8.toNat_inj.1 (by show _ = 37; omega)
  have l1 := hex_lt (s[k + 1]'(by omega))
  have l2 := hex_lt (s[k + 2]'h2)
  have x1 := hex_2 (s[k + 1]'(by omega))
  have x2 := hex_5 (s[k + 2]'h2)
  rw [h0, Bool.eq_iff_iff, decide_eq_true_eq, beq_iff_eq]
  simp only [List.cons.injEq, true_and, and_true]
  rw [← x1, ← x2]
  omega

set_option maxRecDepth 100000 in
set_option maxHeartbeats 4000000 in
theorem i_unescape (s : ByteArray) (w : Nat) (m : Int) (W : World) (q : Bool) (hs : Sm s) (hT : Tab W) (hm : m = mode w)
    (hq : (m == 4) = q) (h8 : (m == 8) = false) (h32 : (m == 32) = false) (hst : q = false → ∀ c, U.stands w c = true) (hes : q = false → ∀ c, U.escapes w c = true) (hq2 : q = true → w = 2) :
    Calls Tryz.prog 73 #[.string s, .int .u8 m] W (UnPost W (U.unesc w (L s))) := by
  obtain ⟨o, HO⟩ : ∃ o, Hid (U.unesc w (L s) = o) := ⟨_, rfl⟩
  rw [HO.out]
  have HM := Lib.hid hm
  have HT := Lib.hid hT
  have HST := Lib.hid hst
  have HES := Lib.hid hes
  have HQ2 := Lib.hid hq2
  have HS0 : Hid (Scan w s o 0 0) := Lib.hid (Scan.start w s o HO.out)
  clear hm hT hst hes hq2
  go_enter Tryz.func73, Tryz.ntmps73
  go_wp2_with fail
  go_loop [0, 6, 7, 8] (fun z a p i => ∃ k n : Nat, k ≤ s.size ∧ n ≤ k ∧ i = .int .i64 k ∧ a = .int .i64 n ∧ p = .bool false ∧ z = .string s ∧ Hid (Scan w s o k n)) (fun _ _ _ i => s.size - (intOf i).toNat)
  case atStart => exact ⟨0, 0, Nat.zero_le _, Nat.le_refl _, rfl, rfl, rfl, rfl, HS0⟩
  case round =>
    clear HS0
    obtain ⟨k, n, hk, hn, rfl, rfl, rfl, rfl, HS⟩ := hrel
    by_cases hlt : k < s.size
    · by_cases h37 : ((s[k]'hlt).toNat : Int) = 37
      · by_cases h2 : k + 2 < s.size
        · have hb1 : k + 1 < s.size := by omega
          obtain ⟨x1, HX1⟩ : ∃ b, Hid (isHex (s[k + 1]'hb1) = b) := ⟨_, rfl⟩
          obtain ⟨x2, HX2⟩ : ∃ b, Hid (isHex (s[k + 2]'h2) = b) := ⟨_, rfl⟩
          have e1 : ((k : Int) + 1).toNat = k + 1 := by omega
          have e2 : ((k : Int) + 2).toNat = k + 2 := by omega
          have hwide : ¬ (s.size : Int) ≤ (k : Int) + 2 := by omega
          go_wp2_with fail
          refine (i_ishex (s[k + 1]'hb1) _ x1 _ HT.out rfl HX1).mono ?_
          rintro e w1 ⟨rfl, rfl⟩
          cases x1
          · go_wp2_with fail
            all_goals
              go_ret2
              exact un_none (HS.out.none (by rw [un_pct w s k h2 (by omega), if_pos (.inl ((ishex_is _ _ HX1).2 rfl))])) _ ⟨_, _, rfl⟩ (Below.refl _ _)
          · go_wp2_with fail
            refine (i_ishex (s[k + 2]'h2) _ x2 _ HT.out rfl HX2).mono ?_
            rintro e w1 ⟨rfl, rfl⟩
            cases x2
            · go_wp2_with fail
              all_goals
                go_ret2
                exact un_none (HS.out.none (by rw [un_pct w s k h2 (by omega), if_pos (.inr ((ishex_is _ _ HX2).2 rfl))])) _ ⟨_, _, rfl⟩ (Below.refl _ _)
            · cases q
              · have HP : Hid (Scan w s o (k + 3) (n + 1)) := Lib.hid (HS.out.pct h2 (by omega) ((ishex_is _ _ HX1).1 rfl) ((ishex_is _ _ HX2).1 rfl) (HES.out rfl _))
                go_wp2_with fail
                exact ⟨⟨k + 3, n + 1, by omega, by omega, by go_num, by go_num, rfl, rfl, HP⟩, by simp [intOf]; omega⟩
              · obtain ⟨a, HA⟩ : ∃ a, Hid (U.hexv (s[k + 1]'hb1) = a) := ⟨_, rfl⟩
                have HW2 : Hid (w = 2) := Lib.hid (HQ2.out rfl)
                go_wp2_with fail
                refine (i_unhex (s[k + 1]'hb1) _ a _ rfl HX1.out HA).mono ?_
                rintro e w1 ⟨rfl, rfl⟩
                have hna := (ishex_is _ _ HX1).1 rfl
                have hnb := (ishex_is _ _ HX2).1 rfl
                have hlb := hex_lt (s[k + 2]'h2)
                have hsl := slice3 s k h2 (by omega) (by omega) (by omega)
                have HV : Hid (U.escapes w (U.hexv (s[k + 1]'hb1) * 16 + U.hexv (s[k + 2]'h2)) = !(decide (a < 8) && !decide (U.hexv (s[k + 1]'hb1) * 16 + U.hexv (s[k + 2]'h2) = 37))) := by
                  rw [HW2.out]
                  unfold U.escapes
                  rw [HA.out] at hna ⊢
                  rw [show decide (a * 16 + U.hexv (s[k + 2]'h2) < 128) = decide (a < 8) from by rw [Bool.eq_iff_iff, decide_eq_true_eq, decide_eq_true_eq]; omega]
                  exact Lib.hid rfl
                obtain ⟨x, HX⟩ : ∃ x, Hid (decide (U.hexv (s[k + 1]'hb1) * 16 + U.hexv (s[k + 2]'h2) = 37) = x) := ⟨_, rfl⟩
                rw [HX.out] at HV hsl
                clear hlb
                by_cases ha8 : a < 8
                · cases x
                  · have ho := HS.out.none (by rw [un_pct w s k h2 (by omega), if_neg (by omega), HV.out, decide_eq_true ha8]; rfl)
                    clear hna hnb
                    go_wp2_with fail
                    go_quiet (fail)
                    go_wp2_with fail
                    go_ret2
                    exact un_none ho _ ⟨_, _, rfl⟩ (below_n (Below.refl _ _) _)
                  · have HP : Hid (Scan w s o (k + 3) (n + 1)) := Lib.hid (HS.out.pct h2 (by omega) hna hnb (by rw [HV.out]; simp))
                    clear hna hnb
                    go_wp2_with fail
                    exact ⟨⟨k + 3, n + 1, by omega, by omega, by go_num, by go_num, rfl, rfl, HP⟩, by simp [intOf]; omega⟩
                · have HP : Hid (Scan w s o (k + 3) (n + 1)) := Lib.hid (HS.out.pct h2 (by omega) hna hnb (by rw [HV.out, decide_eq_false ha8]; rfl))
                  clear hna hnb
                  go_wp2_with fail
                  exact ⟨⟨k + 3, n + 1, by omega, by omega, by go_num, by go_num, rfl, rfl, HP⟩, by simp [intOf]; omega⟩
        · go_wp2_with fail
          go_ret2
          exact un_none (HS.out.none (un_short w s k hlt h2 (by omega))) _ ⟨_, _, rfl⟩ (Below.refl _ _)
      · have hne : (((s[k]'hlt).toNat : Int) == 37) = false := beq_eq_false_iff_ne.2 h37
        by_cases h43 : ((s[k]'hlt).toNat : Int) = 43
        · have HP : Hid (Scan w s o (k + 1) n) := Lib.hid (HS.out.byte hlt (by omega) (by
            have : s[k]'hlt = 43 := UInt8.toNat_inj.1 (by show _ = 43; omega)
            rw [this]
            cases q
            · exact HST.out rfl _
            · rw [HQ2.out rfl]
              decide))
          clear hne
          go_wp2_with fail
          exact ⟨⟨k + 1, n, by omega, by omega, by go_num, rfl, rfl, rfl, HP⟩, by simp [intOf]; omega⟩
        · have hne2 : (((s[k]'hlt).toNat : Int) == 43) = false := beq_eq_false_iff_ne.2 h43
          have HN : Hid (¬ (s[k]'hlt).toNat = 37) := Lib.hid (by omega)
          clear h37 h43
          cases q
          · have HP : Hid (Scan w s o (k + 1) n) := Lib.hid (HS.out.byte hlt HN.out (HST.out rfl _))
            go_wp2_with fail
            exact ⟨⟨k + 1, n, by omega, by omega, by go_num, rfl, rfl, rfl, HP⟩, by simp [intOf]; omega⟩
          · by_cases h128 : ((s[k]'hlt).toNat : Int) < 128
            · obtain ⟨b, HB⟩ : ∃ b, Hid ((!U.free w (s[k]'hlt)) = b) := ⟨_, rfl⟩
              have HSD : Hid (U.stands w (s[k]'hlt) = !b) := by
                have := HB.out
                rw [HQ2.out rfl] at this ⊢
                refine Lib.hid ?_
                unfold U.stands
                rw [this, decide_eq_true (show (s[k]'hlt).toNat < 128 by omega)]
                rfl
              go_wp2_with fail
              refine (i_shouldEscape (s[k]'hlt) w _ m b _ HT.out rfl HM.out HB).mono ?_
              rintro e w1 ⟨rfl, rfl⟩
              cases b
              · have HP : Hid (Scan w s o (k + 1) n) := Lib.hid (HS.out.byte hlt HN.out HSD.out)
                go_wp2_with fail
                exact ⟨⟨k + 1, n, by omega, by omega, by go_num, rfl, rfl, rfl, HP⟩, by simp [intOf]; omega⟩
              · have ho := HS.out.none (by rw [un_byte w s k hlt HN.out, HSD.out]; rfl)
                go_wp2_with fail
                go_quiet (fail)
                go_wp2_with fail
                go_ret2
                exact un_none ho _ ⟨_, _, rfl⟩ (below_n (Below.refl _ _) _)
            · have HP : Hid (Scan w s o (k + 1) n) := Lib.hid (HS.out.byte hlt HN.out (by
                rw [HQ2.out rfl]
                unfold U.stands
                rw [decide_eq_false (show ¬ (s[k]'hlt).toNat < 128 by omega)]
                rfl))
              go_wp2_with fail
              exact ⟨⟨k + 1, n, by omega, by omega, by go_num, rfl, rfl, rfl, HP⟩, by simp [intOf]; omega⟩
    · have h3 := HS.out.1
      by_cases hn0 : n = 0
      · subst hn0
        have ho : o = some (L s) := by
          rw [HS.out.2.1 rfl, un_end w s k hlt]
          show some ((L s).take k ++ []) = _
          rw [List.append_nil, List.take_of_length_le (by rw [U.len_L]; omega)]
        subst ho
        go_wp2_with fail
        go_ret2
        refine ⟨Below.refl _ _, ?_⟩
        show _ = Ending.returned (.tuple #[.string (S (L s)), .nilIface])
        rw [U.S_L]
        rfl
      · have hn1 : ((n : Int) == 0) = false := beq_eq_false_iff_ne.2 (by omega)
        obtain ⟨out, ho⟩ : ∃ out, o = some out := by
          have := HS.out.2.2
          rw [un_end w s k hlt] at this
          cases o with
          | none => exact absurd this (by simp)
          | some x => exact ⟨x, rfl⟩
        subst ho
        have HR0 : Hid (Reads w s out [] 0) := Lib.hid ⟨Nat.le_refl _, out, by simpa using HO.out, rfl⟩
        clear HS hn0 HST HES HQ2 HO
        go_wp2_with fail
        refine (grow0 W.heap.size _ W (by omega) (by have : s.size ≤ 1000000000 := hs; omega) rfl _ rfl).mono ?_
        rintro e W1 ⟨rfl, hI, hB1⟩
        go_wp2_with fail
        go_loopw [12] (fun i W2 => ∃ (k : Nat) (acc : U.B), k ≤ s.size ∧ i = .int .i64 k ∧ Lib.IsBuilder 92 5 W.heap.size W.heap.size (Lib.byteCells acc) W2 ∧ Below W.heap.size W W2 ∧ Hid (Reads w s out acc k)) (fun i _ => s.size - (intOf i).toNat)
        case atStart => exact ⟨0, [], Nat.zero_le _, rfl, hI, hB1, HR0⟩
        case round =>
          clear HR0 hI hB1
          obtain ⟨k, acc, hk, rfl, hI, hB1, HR⟩ := hrel
          have hac := HR.out.1
          have hsm : s.size ≤ 1000000000 := hs
          by_cases hlt : k < s.size
          · by_cases h37 : ((s[k]'hlt).toNat : Int) = 37
            · have h2 := HR.out.two hlt (by omega)
              have hb1 : k + 1 < s.size := by omega
              obtain ⟨na, nb, hr⟩ := HR.out.pct h2 (by omega)
              have HP := Lib.hid hr
              obtain ⟨a, HA⟩ : ∃ a, Hid (U.hexv (s[k + 1]'hb1) = a) := ⟨_, rfl⟩
              obtain ⟨b, HB⟩ : ∃ b, Hid (U.hexv (s[k + 2]'h2) = b) := ⟨_, rfl⟩
              have hla := hex_lt (s[k + 1]'hb1)
              have hlb := hex_lt (s[k + 2]'h2)
              have X1 : Hid (isHex (s[k + 1]'hb1) = true) := Lib.hid (decide_eq_true (by omega))
              have X2 : Hid (isHex (s[k + 2]'h2) = true) := Lib.hid (decide_eq_true (by omega))
              rw [HA.out] at na hla HP
              rw [HB.out] at nb hlb HP
              have HOR : Hid (Go.bits .or .u8 (a * 16) b = ((UInt8.ofNat (a * 16 + b).toNat).toNat : Int)) := by
                have hx := hex_or a b (by omega) hla (by omega) hlb
                rw [IntWalk.u8_in _ (by omega)] at hx
                rw [hx]
                refine Lib.hid ?_
                rw [UInt8.toNat_ofNat_of_lt' (by show _ < 256; omega)]
                omega
              clear hr
              have g1 : IntKind.i64.wrap ((k : Int) + 1) = (k : Int) + 1 := IntWalk.i64_in _ (by omega)
              have g2 : IntKind.i64.wrap ((k : Int) + 2) = (k : Int) + 2 := IntWalk.i64_in _ (by omega)
              have p1 : 0 ≤ (k : Int) + 1 := by omega
              have p2 : 0 ≤ (k : Int) + 2 := by omega
              have c1 : (k : Int) + 1 < (s.size : Int) := by omega
              have c2 : (k : Int) + 2 < (s.size : Int) := by omega
              have n1 : ((k : Int) + 1).toNat = k + 1 := by omega
              have n2 : ((k : Int) + 2).toNat = k + 2 := by omega
              go_upto_region 41 with (fail)
              refine wp_region_still_tail 12 (by kernel_rfl) (by kernel_rfl) ?_
              simp only [List.take_succ_cons, List.take_zero, List.drop_succ_cons, List.drop_zero]
              repeat still_step
              still_call (unhex_at (s[k + 1]'hb1) _ a _ rfl X1.out HA)
              repeat still_step
              still_call (unhex_at (s[k + 2]'h2) _ b _ rfl X2.out HB)
              repeat still_step
              refine wpStill_nil ?_
              have hI' : Lib.IsBuilder 92 5 W.heap.size W.heap.size (Lib.byteCells acc) wr.drew := hI
              have hB' : Below W.heap.size W wr.drew := below_n hB1 1
              change wpList _ _ _ _ _ wr.drew
              clear hI hB1 g1 g2
              generalize wr.drew = w2 at hI' hB' ⊢
              go_wp2_with fail
              refine (wbyte _ _ acc _ (UInt8.ofNat (a * 16 + b).toNat) _ W hI' (by omega) hB' (Nat.le_refl _) HOR.out).mono ?_
              rintro e W2 ⟨rfl, hI2, hB2⟩
              go_wp2_with fail
              exact ⟨⟨k + 3, acc ++ [UInt8.ofNat (a * 16 + b).toNat], by omega, by go_num, hI2, hB2, HP⟩, by simp [intOf]; omega⟩
            · have hne : (((s[k]'hlt).toNat : Int) == 37) = false := beq_eq_false_iff_ne.2 h37
              have HP := Lib.hid (HR.out.byte hlt (by omega))
              by_cases h43 : ((s[k]'hlt).toNat : Int) = 43
              · clear hne
                go_wp2_with fail
                refine (wbyte _ _ acc _ (s[k]'hlt) _ W hI (by omega) hB1 (Nat.le_refl _) (by omega)).mono ?_
                rintro e W2 ⟨rfl, hI2, hB2⟩
                go_wp2_with fail
                exact ⟨⟨k + 1, acc ++ [s[k]'hlt], by omega, by go_num, hI2, hB2, HP⟩, by simp [intOf]; omega⟩
              · have hne2 : (((s[k]'hlt).toNat : Int) == 43) = false := beq_eq_false_iff_ne.2 h43
                clear h37 h43
                go_wp2_with fail
                refine (wbyte _ _ acc _ (s[k]'hlt) _ W hI (by omega) hB1 (Nat.le_refl _) rfl).mono ?_
                rintro e W2 ⟨rfl, hI2, hB2⟩
                go_wp2_with fail
                exact ⟨⟨k + 1, acc ++ [s[k]'hlt], by omega, by go_num, hI2, hB2, HP⟩, by simp [intOf]; omega⟩
          · have ho := HR.out.end hlt
            subst ho
            go_wp2_with fail
            refine (bstring _ _ acc _ W hI hB1 (Nat.le_refl _)).mono ?_
            rintro e W2 ⟨rfl, hB2⟩
            go_wp2_with fail
            go_ret2
            exact ⟨hB2, rfl⟩

theorem i_un_path (s : ByteArray) (W : World) (hs : Sm s) (hT : Tab W) : Calls Tryz.prog 73 #[.string s, .int .u8 1] W (UnPost W (U.unesc 0 (L s))) :=
  i_unescape s 0 1 W false hs hT rfl rfl rfl rfl (fun _ _ => rfl) (fun _ _ => rfl) (fun h => by cases h)
theorem i_un_user (s : ByteArray) (W : World) (hs : Sm s) (hT : Tab W) : Calls Tryz.prog 73 #[.string s, .int .u8 16] W (UnPost W (U.unesc 1 (L s))) :=
  i_unescape s 1 16 W false hs hT rfl rfl rfl rfl (fun _ _ => rfl) (fun _ _ => rfl) (fun h => by cases h)
theorem i_un_host (s : ByteArray) (W : World) (hs : Sm s) (hT : Tab W) : Calls Tryz.prog 73 #[.string s, .int .u8 4] W (UnPost W (U.unesc 2 (L s))) :=
  i_unescape s 2 4 W true hs hT rfl rfl rfl rfl (fun h => by cases h) (fun h => by cases h) (fun _ => rfl)
theorem i_un_frag (s : ByteArray) (W : World) (hs : Sm s) (hT : Tab W) : Calls Tryz.prog 73 #[.string s, .int .u8 64] W (UnPost W (U.unesc 3 (L s))) :=
  i_unescape s 3 64 W false hs hT rfl rfl rfl rfl (fun _ _ => rfl) (fun _ _ => rfl) (fun h => by cases h)
end Go.Proofs.YtphkohpphdcjhaaGreatDoor
