/- What the rows that read numbers have of their lists: the tables and the two sentinels. -/
import Derived.Test.YtenepfefpoiddaaDoorCode
namespace Go.Proofs.YtenepfefpoiddaaDoor
open Go.ChangeShapes Go.WideShapes Go.ChangeAt Go.RowKit

structure EnvP (w : World) : Prop where
  nums : Env w.heap.size w
  errs : ∃ ar ay, Errs ar ay w

theorem gRange : Tryd.prog.globalNamed "strconv.ErrRange" = some 1 := by kernel_rfl
theorem gSyntax : Tryd.prog.globalNamed "strconv.ErrSyntax" = some 0 := by kernel_rfl
theorem gRangeType : (Tryd.prog.globals[1]?).map (·.type) = some 56 := by kernel_rfl
theorem gSyntaxType : (Tryd.prog.globals[0]?).map (·.type) = some 56 := by kernel_rfl
theorem cellsES : Tryd.prog.cellsOf 110 = 1 := by kernel_rfl
theorem cellsStr : Tryd.prog.cellsOf 9 = 1 := by kernel_rfl
theorem starES : "*" ++ "errors.errorString" = "*errors.errorString" := by decide
theorem oneES (u : TypeId) (h : Tryd.prog.typeName? 3 u = some "*errors.errorString") : u = 108 :=
  typeName_ptr_named (nm := "errors.errorString") (by rw [starES]; kernel_rfl) (by kernel_rfl) (by decide) u (by rw [starES]; exact h)

theorem env_errs {W : World} {rest : List (String × DataW Unit)} (h : laidMet Tryd.prog (("strconv.ErrRange", Rows.laid_strconv_ErrRange) :: ("strconv.ErrSyntax", Rows.laid_strconv_ErrSyntax) :: rest) W) : ∃ ar ay, Errs ar ay W := by
  obtain ⟨a0, a1, s0, s1, c0, c1, t0, t1, hv0, hv1, hc0, hs0, hz0, hc1, hs1, hz1, hne, hb0, hb1⟩ := laid_sentinels2 h gRange gRangeType gSyntax gSyntaxType Tryd.underlying56 oneES Tryd.underlying108 Tryd.underlying110 rfl rfl Tryd.underlying9 cellsES cellsStr
  exact ⟨a0, a1, by simpa using World.var?_cell gRange hv0 0, by simpa using World.var?_cell gSyntax hv1 0, hne, ⟨c0, t0, hb0⟩, ⟨c1, t1, hb1⟩⟩

theorem env_parse {W : World} {rest : List (String × DataW Unit)} (h1 : laidMet Tryd.prog (("math/bits.deBruijn32tab", Rows.laid_math_bits_deBruijn32tab) :: ("math/bits.deBruijn64tab", Rows.laid_math_bits_deBruijn64tab) :: ("internal/strconv.uint64pow10", Rows.laid_internal_strconv_uint64pow10) :: ("strconv.ErrRange", Rows.laid_strconv_ErrRange) :: ("strconv.ErrSyntax", Rows.laid_strconv_ErrSyntax) :: rest) W) : EnvP W :=
  ⟨env_nums h1, env_errs (laidMet.tail (laidMet.tail (laidMet.tail h1)))⟩
end Go.Proofs.YtenepfefpoiddaaDoor
