/- unicode/utf8.ValidString: the kit's contract at this translation's numbers. (Printed by valid.py.) -/
import Derived.Test.YthjkpkkkjndjlaaDoorShelf
import Derived.Shelf.Unicode.ValidAny
namespace Go.Proofs.YthjkpkkkjndjlaaDoor
open Go.RowKit

def lays196_ren : Go.Shelf.Ren := ⟨fun | 196 => 56 | 259 => 75 | n => n, fun | 0 => 0 | 3 => 3 | 4 => 4 | 5 => 5 | 9 => 9 | 12 => 12 | 46 => 81 | 53 => 37 | 119 => 98 | 138 => 100 | 139 => 101 | n => n, fun | 3 => 3 | 4 => 4 | n => n⟩
theorem lays196 : Go.Proofs.Lays.n196 Tryd.prog lays196_ren := {
  mixed := by kernel_rfl
  f196 := Tryd.func56.trans (congrArg some (by kernel_rfl))
  f259 := Tryd.func75.trans (congrArg some (by kernel_rfl))
  t0 := Tryd.underlying0
  a0 := Tryd.isAgg0
  z0 := Tryd.sizeOf0
  v0 := Tryd.zeroValue0
  t3 := Tryd.underlying3
  a3 := Tryd.isAgg3
  z3 := Tryd.sizeOf3
  v3 := Tryd.zeroValue3
  t4 := Tryd.underlying4
  a4 := Tryd.isAgg4
  z4 := Tryd.sizeOf4
  v4 := Tryd.zeroValue4
  t5 := Tryd.underlying5
  a5 := Tryd.isAgg5
  z5 := Tryd.sizeOf5
  v5 := Tryd.zeroValue5
  t9 := Tryd.underlying9
  a9 := Tryd.isAgg9
  z9 := Tryd.sizeOf9
  v9 := Tryd.zeroValue9
  t12 := Tryd.underlying12
  a12 := Tryd.isAgg12
  z12 := Tryd.sizeOf12
  v12 := Tryd.zeroValue12
  t46 := Tryd.underlying81
  a46 := Tryd.isAgg81
  z46 := Tryd.sizeOf81
  v46 := Tryd.zeroValue81
  t53 := Tryd.underlying37
  a53 := Tryd.isAgg37
  z53 := Tryd.sizeOf37
  v53 := Tryd.zeroValue37
  t119 := Tryd.underlying98
  a119 := Tryd.isAgg98
  z119 := Tryd.sizeOf98
  t138 := Tryd.underlying100
  a138 := Tryd.isAgg100
  z138 := Tryd.sizeOf100
  v138 := Tryd.zeroValue100
  t139 := Tryd.underlying101
  a139 := Tryd.isAgg101
  z139 := Tryd.sizeOf101
  v139 := Tryd.zeroValue101
  g3 := by kernel_rfl
  g4 := by kernel_rfl }
theorem ValidString_any (s : ByteArray) (w : World) (hs : s.size ≤ 9223372036854775807) (hT : Lib.Utf8Tabs 3 4 w) :
    Calls Tryd.prog 56 #[.string s] w fun e w' => e = .returned (.bool (Lib.validD s.data.toList)) ∧ Below w.heap.size w w' := Any.utf8_ValidString lays196 s w hs hT
end Go.Proofs.YthjkpkkkjndjlaaDoor
