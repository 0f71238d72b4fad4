/- path.Join at this translation: out of the shelf. -/
import Derived.Test.YtphkohpphdcjhaaGreatDoorProg
import Derived.Shelf.Path.Join
namespace Go.Proofs
open Go.Shelf

def Tryz.laysPah31_ren : Go.Shelf.Ren := ⟨fun | 31 => 106 | 30 => 117 | 46 => 127 | 47 => 128 | 48 => 129 | n => n, fun | 26 => 35 | 9 => 9 | 3 => 3 | 0 => 0 | 4 => 4 | 30 => 70 | 5 => 5 | 42 => 148 | 48 => 157 | n => n, fun | n => n⟩
theorem Tryz.laysPah31 : Go.Proofs.Lays.ph31 Tryz.prog Tryz.laysPah31_ren := {
  mixed := by kernel_rfl
  f30 := Tryz.func117.trans (congrArg some (by kernel_rfl))
  f31 := Tryz.func106.trans (congrArg some (by kernel_rfl))
  f46 := Tryz.func127.trans (congrArg some (by kernel_rfl))
  f47 := Tryz.func128.trans (congrArg some (by kernel_rfl))
  f48 := Tryz.func129.trans (congrArg some (by kernel_rfl))
  t0 := Tryz.underlying0
  a0 := Tryz.isAgg0
  z0 := Tryz.sizeOf0
  v0 := Tryz.zeroValue0
  t3 := Tryz.underlying3
  a3 := Tryz.isAgg3
  z3 := Tryz.sizeOf3
  v3 := Tryz.zeroValue3
  t4 := Tryz.underlying4
  a4 := Tryz.isAgg4
  z4 := Tryz.sizeOf4
  v4 := Tryz.zeroValue4
  t5 := Tryz.underlying5
  a5 := Tryz.isAgg5
  z5 := Tryz.sizeOf5
  v5 := Tryz.zeroValue5
  t9 := Tryz.underlying9
  a9 := Tryz.isAgg9
  z9 := Tryz.sizeOf9
  v9 := Tryz.zeroValue9
  t26 := Tryz.underlying35
  a26 := Tryz.isAgg35
  z26 := Tryz.sizeOf35
  v26 := Tryz.zeroValue35
  t30 := Tryz.underlying70
  a30 := Tryz.isAgg70
  z30 := Tryz.sizeOf70
  v30 := Tryz.zeroValue70
  t42 := Tryz.underlying148
  a42 := Tryz.isAgg148
  z42 := Tryz.sizeOf148
  v42 := Tryz.zeroValue148
  t48 := Tryz.underlying157
  a48 := Tryz.isAgg157
  z48 := Tryz.sizeOf157
  v48 := Tryz.zeroValue157
  info5 := by kernel_rfl }
open Go.RowKit Go.Lib in
theorem Tryz.path_Join (bk o c : Nat) (xs : List ByteArray) (w : World) (hcells : ∀ (j : Nat) x, xs[j]? = some x → w.cell? ⟨bk, o + j, none⟩ = some (.string x)) (hbk : bk < w.heap.size) (hlen : Pa.lens (xs.map (·.data.toList)) + xs.length ≤ 281474976710656) :
    Calls Tryz.prog 106 #[.slice (some ⟨bk, o, none⟩) xs.length c] w fun e w' => e = .returned (.string ⟨(Pa.joinL (xs.map (·.data.toList))).toArray⟩) ∧ Below w.heap.size w w' := Any.path_Join Tryz.laysPah31 bk o c xs w hcells hbk hlen
end Go.Proofs
