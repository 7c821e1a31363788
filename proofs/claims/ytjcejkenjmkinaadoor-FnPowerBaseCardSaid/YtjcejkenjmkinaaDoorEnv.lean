/- What the rows' lists of package-level variables give, a world for the witness, and laws.based. -/
import Derived.Test.YtjcejkenjmkinaaDoorCards
import Derived.Test.YtjcejkenjmkinaaDoorTie
import Derived.Test.YtjcejkenjmkinaaDoorForm
import Derived.ProofKit
import Derived.OpenShut
import Derived.Deep.DeepHandedRow
import Derived.Stop.LaidErr
namespace Go.Proofs.YtjcejkenjmkinaaDoor
open Go.ChangeShapes Go.WideShapes Go.ChangeAt Go.RowKit

theorem ownKnobs : ownKnob Tryd.prog.godebug = none := by kernel_rfl

/-- What the rows list. -/
def laidList : List (String × DataW Unit) := [("math/bits.deBruijn32tab", Rows.laid_math_bits_deBruijn32tab), ("math/bits.deBruijn64tab", Rows.laid_math_bits_deBruijn64tab), ("internal/strconv.uint64pow10", Rows.laid_internal_strconv_uint64pow10)]

theorem gPow : Tryd.prog.globalNamed "internal/strconv.uint64pow10" = some 0 := by kernel_rfl
theorem gPowType : (Tryd.prog.globals[0]?).map (·.type) = some 39 := by kernel_rfl
theorem gDbType : (Tryd.prog.globals[2]?).map (·.type) = some 46 := by kernel_rfl
theorem cellsU64 : Tryd.prog.cellsOf 22 = 1 := by kernel_rfl
theorem cellsU8 : Tryd.prog.cellsOf 5 = 1 := by kernel_rfl
theorem cellsA20 : Tryd.prog.cellsOf 39 = 20 := by kernel_rfl
theorem cellsA64 : Tryd.prog.cellsOf 46 = 64 := by kernel_rfl

theorem env_of {W : World} (h0 : laidMetH Tryd.prog laidList W) : Env W.heap.size W := by
  have h1 : laidMet Tryd.prog laidList W := h0
  have h2 := laidMet.tail h1
  have h3 := laidMet.tail h2
  exact ⟨Lib.tabBelow_of_tabIs (Lib.tabIs_of_head (rest := []) (zs := Lib.pow10Tab) gPow gPowType Tryd.underlying39 Tryd.underlying22 cellsU64 cellsA20 h3),
    Lib.tabBelow_of_tabIs (Lib.tabIs_of_head (rest := [("internal/strconv.uint64pow10", Rows.laid_internal_strconv_uint64pow10)]) (zs := dbTab) gDb gDbType Tryd.underlying46 Tryd.underlying5 cellsU8 cellsA64 h2), Nat.le_refl _⟩

/-- math/bits.deBruijn32tab, as the row lists it. -/
def db32Tab : List Int := [0, 1, 28, 2, 29, 14, 24, 3, 30, 22, 20, 15, 25, 17, 4, 8, 31, 27, 13, 23, 21, 19, 16, 7, 26, 12, 18, 6, 11, 5, 10, 9]

def layCells (cs : Array Value) : Obj → Obj
  | .cells _ t frozen => .cells cs t frozen
  | o => o
/-- A world for the witness: the settled one, each table holding what its initialiser lays. -/
noncomputable def laidWorld (os : Os) : World :=
  { World.holding Tryd.prog os ⟨#[], #[], []⟩ with heap := (((World.holding Tryd.prog os ⟨#[], #[], []⟩).heap.modify 0 (layCells (Lib.pow10Tab.map (Value.int .u64)).toArray)).modify 1 (layCells (db32Tab.map (Value.int .u8)).toArray)).modify 2 (layCells (dbTab.map (Value.int .u8)).toArray) }

theorem wf_u64 {n : Int} (h : (Lit.int .u64 n).wf = true) : ∃ u : Nat, n = u ∧ u < 18446744073709551616 := by
  have hx : 0 ≤ n ∧ n ≤ 18446744073709551615 := by simpa [Lit.wf, IntKind.min, IntKind.max, IntKind.signed, IntKind.bits] using h
  exact ⟨n.toNat, by omega, by omega⟩
theorem wf_i64 {n : Int} (h : (Lit.int .i64 n).wf = true) : -9223372036854775808 ≤ n ∧ n ≤ 9223372036854775807 := by
  simpa [Lit.wf, IntKind.min, IntKind.max, IntKind.signed, IntKind.bits] using h

theorem based_yes (b : Nat) (w : World) (h1 : 2 ≤ b) (h2 : b ≤ 36) :
    Calls Tryd.prog 10 #[.int .i64 b] w fun e w' => e = .returned (.bool true) ∧ w = w' := by
  have h := based_any (b : Int) w
  rwa [show decide (2 ≤ (b : Int) ∧ (b : Int) ≤ 36) = true by simp; omega] at h
theorem based_no (b : Int) (w : World) (h : ¬ (2 ≤ b ∧ b ≤ 36)) :
    Calls Tryd.prog 10 #[.int .i64 b] w fun e w' => e = .returned (.bool false) ∧ w = w' := by
  have h' := based_any b w
  rwa [show decide (2 ≤ b ∧ b ≤ 36) = false from decide_eq_false h] at h'
end Go.Proofs.YtjcejkenjmkinaaDoor
