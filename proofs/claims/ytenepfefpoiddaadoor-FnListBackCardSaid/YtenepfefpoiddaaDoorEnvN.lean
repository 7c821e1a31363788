/- What a row's list of package-level variables gives where it begins with the three tables of numbers, and a world for the witness of any list. -/
import Derived.Test.YtenepfefpoiddaaDoorCards
import Derived.Test.YtenepfefpoiddaaDoorTie
import Derived.Test.YtenepfefpoiddaaDoorForm
import Derived.ProofKit
import Derived.OpenShut
import Derived.Deep.DeepHandedRow
import Derived.Stop.LaidErr
import Derived.Lay
import Derived.MakeChecks
namespace Go.Proofs.YtenepfefpoiddaaDoor
open Go.ChangeShapes Go.WideShapes Go.ChangeAt Go.RowKit

theorem ownKnobs : ownKnob Tryd.prog.godebug = none := by kernel_rfl
theorem gPow : Tryd.prog.globalNamed "internal/strconv.uint64pow10" = some 2 := by kernel_rfl
theorem gPowType : (Tryd.prog.globals[2]?).map (·.type) = some 87 := by kernel_rfl
theorem gDbType : (Tryd.prog.globals[4]?).map (·.type) = some 112 := by kernel_rfl
theorem cellsU64 : Tryd.prog.cellsOf 31 = 1 := by kernel_rfl
theorem cellsU8 : Tryd.prog.cellsOf 5 = 1 := by kernel_rfl
theorem cellsA20 : Tryd.prog.cellsOf 87 = 20 := by kernel_rfl
theorem cellsA64 : Tryd.prog.cellsOf 112 = 64 := by kernel_rfl

theorem env_nums {W : World} {rest : List (String × DataW Unit)} (h1 : laidMet Tryd.prog (("math/bits.deBruijn32tab", Rows.laid_math_bits_deBruijn32tab) :: ("math/bits.deBruijn64tab", Rows.laid_math_bits_deBruijn64tab) :: ("internal/strconv.uint64pow10", Rows.laid_internal_strconv_uint64pow10) :: rest) W) : Env W.heap.size W := by
  have h2 := laidMet.tail h1
  have h3 := laidMet.tail h2
  exact ⟨Lib.tabBelow_of_tabIs (Lib.tabIs_of_head (zs := Lib.pow10Tab) gPow gPowType Tryd.underlying87 Tryd.underlying31 cellsU64 cellsA20 h3),
    Lib.tabBelow_of_tabIs (Lib.tabIs_of_head (zs := dbTab) gDb gDbType Tryd.underlying112 Tryd.underlying5 cellsU8 cellsA64 h2), Nat.le_refl _⟩

/-- A witness: the settled world with the listed variables laid. -/
theorem witness_laid {H : Type} {enc : TypeId × Value → H} {os : Os} {f : FuncId} {fn : Func} {s : OpenSpec} {conds : List PathCond} {apart : Bool} {laid : List (String × DataW Unit)} (args : Array Value)
    (hsh : ((World.laidAll Tryd.prog os laid).forCall (fun _ _ => 0) ⟨#[], args, []⟩).Shaped Tryd.prog)
    (hok : Input.okWideB Tryd.prog ((World.laidAll Tryd.prog os laid).forCall (fun _ _ => 0) ⟨#[], args, []⟩) f ⟨#[], args, []⟩ = true)
    (hrow : s.preRow enc Tryd.prog fn conds apart laid ((World.laidAll Tryd.prog os laid).forCall (fun _ _ => 0) ⟨#[], args, []⟩).memory args) :
    ∃ (w : World) (tape : Tape) (i : Input), w.os = os ∧ (w.forCall tape i).Shaped Tryd.prog ∧ i.vars = [] ∧ Input.okWide Tryd.prog (w.forCall tape i) .any w.heap.size f i ∧
      s.preRow enc Tryd.prog fn conds apart laid (w.forCall tape i).memory i.args ∧ ({} : Assume).holds Tryd.prog (lone (Frame.enter Tryd.prog f i.args .normal) [] (w.forCall tape i)) :=
  ⟨World.laidAll Tryd.prog os laid, fun _ _ => 0, ⟨#[], args, []⟩, World.laidAll_os _ _ _, hsh, (Input.okWide_of_okWideB (base := 0) hok).1, (Input.okWide_of_okWideB hok).2, hrow, by
    simp only [Assume.holds]
    exact ⟨by simp, by simp, fun _ => Modest.zero, by simp, by simp⟩⟩

theorem wf_u64 {n : Int} (h : (Lit.int .u64 n).wf = true) : ∃ u : Nat, n = u ∧ u < 18446744073709551616 := by
  have hx : 0 ≤ n ∧ n ≤ 18446744073709551615 := by simpa [Lit.wf, IntKind.min, IntKind.max, IntKind.signed, IntKind.bits] using h
  exact ⟨n.toNat, by omega, by omega⟩
theorem wf_i64 {n : Int} (h : (Lit.int .i64 n).wf = true) : -9223372036854775808 ≤ n ∧ n ≤ 9223372036854775807 := by
  simpa [Lit.wf, IntKind.min, IntKind.max, IntKind.signed, IntKind.bits] using h
theorem wf_i32 {n : Int} (h : (Lit.int .i32 n).wf = true) : -2147483648 ≤ n ∧ n ≤ 2147483647 := by
  simpa [Lit.wf, IntKind.min, IntKind.max, IntKind.signed, IntKind.bits] using h

theorem based_yes (b : Nat) (w : World) (h1 : 2 ≤ b) (h2 : b ≤ 36) :
   Calls Tryd.prog 21 #[.int .i64 b] w fun e w' => e = .returned (.bool true) ∧ w = w' := by
 have h := based_any (b : Int) w
 rwa [show decide (2 ≤ (b : Int) ∧ (b : Int) ≤ 36) = true by simp; omega] at h
theorem based_no (b : Int) (w : World) (h : ¬ (2 ≤ b ∧ b ≤ 36)) :
   Calls Tryd.prog 21 #[.int .i64 b] w fun e w' => e = .returned (.bool false) ∧ w = w' := by
 have h' := based_any b w
 rwa [show decide (2 ≤ b ∧ b ≤ 36) = false from decide_eq_false h] at h'
end Go.Proofs.YtenepfefpoiddaaDoor
