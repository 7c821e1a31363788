/- What the rows of texts have of their lists: the tables of strconv and of unicode/utf8. -/
import Derived.Test.YthjkpkkkjndjlaaDoorQuote
import Derived.Test.YthjkpkkkjndjlaaDoorEnvN
import Derived.PinnedBridge
import Derived.Lib.LaidU8
import Derived.Lib.LaidPrint
namespace Go.Proofs.YthjkpkkkjndjlaaDoor
open Go.ChangeShapes Go.WideShapes Go.ChangeAt Go.RowKit Go.Lib

/-- strconv's table isGraphic. -/
def grTab : List Nat := match Pinned.isGraphic with
  | .slice es _ => es.map fun d => match d with
    | .lit (.int _ n) => n.toNat
    | _ => 0
  | _ => []
theorem grTab_eq : Pinned.isGraphic = sliceData .u16 grTab := by kernel_rfl
theorem grTab_len : 0 < grTab.length ∧ grTab.length ≤ 4611686018427387904 := of_decide_eq_true (by kernel_rfl)

theorem tab_on {g : Nat} {k : IntKind} {t : List Nat} {w w' : World} (h : TabSlice g k t w) (hb : Below w.heap.size w w') : TabSlice g k t w' := by
  obtain ⟨R, o, c, h1, h2⟩ := h
  refine ⟨R, o, c, (hb.cell (p := ⟨g, 0, none⟩) (Lib.lt_of_cell h1)).trans h1, fun j hj => (hb.cell (p := ⟨R, o + j, none⟩) (Lib.lt_of_cell (h2 j hj))).trans (h2 j hj)⟩

theorem gP16 : Tryd.prog.globalNamed "strconv.isPrint16" = some 6 := by kernel_rfl
theorem gN16 : Tryd.prog.globalNamed "strconv.isNotPrint16" = some 7 := by kernel_rfl
theorem gP32 : Tryd.prog.globalNamed "strconv.isPrint32" = some 8 := by kernel_rfl
theorem gN32 : Tryd.prog.globalNamed "strconv.isNotPrint32" = some 9 := by kernel_rfl
theorem gGr : Tryd.prog.globalNamed "strconv.isGraphic" = some 10 := by kernel_rfl
theorem yP16 : (Tryd.prog.globals[6]?).map (·.type) = some 125 := by kernel_rfl
theorem yN16 : (Tryd.prog.globals[7]?).map (·.type) = some 125 := by kernel_rfl
theorem yP32 : (Tryd.prog.globals[8]?).map (·.type) = some 128 := by kernel_rfl
theorem yN32 : (Tryd.prog.globals[9]?).map (·.type) = some 125 := by kernel_rfl
theorem yGr : (Tryd.prog.globals[10]?).map (·.type) = some 125 := by kernel_rfl
theorem cells16 : Tryd.prog.cellsOf 124 = 1 := by kernel_rfl
theorem cells32 : Tryd.prog.cellsOf 94 = 1 := by kernel_rfl

set_option maxRecDepth 100000 in
theorem print_of {l : List (String × DataW Unit)} {W : World} (h : laidMet Tryd.prog l W)
    (m1 : ("strconv.isPrint16", Rows.laid_strconv_isPrint16) ∈ l) (m2 : ("strconv.isNotPrint16", Rows.laid_strconv_isNotPrint16) ∈ l) (m3 : ("strconv.isPrint32", Rows.laid_strconv_isPrint32) ∈ l) (m4 : ("strconv.isNotPrint32", Rows.laid_strconv_isNotPrint32) ∈ l) (m5 : ("strconv.isGraphic", Rows.laid_strconv_isGraphic) ∈ l) : PrintOk goPrintTabs grTab W := by
  have r1 := laidMet.reads h m1
  have r2 := laidMet.reads h m2
  have r3 := laidMet.reads h m3
  have r4 := laidMet.reads h m4
  have r5 := laidMet.reads h m5
  rw [Rows.laid_strconv_isPrint16, Pinned.isPrint16_eq] at r1
  rw [Rows.laid_strconv_isNotPrint16, Pinned.isNotPrint16_eq] at r2
  rw [Rows.laid_strconv_isPrint32, Pinned.isPrint32_eq] at r3
  rw [Rows.laid_strconv_isNotPrint32, Pinned.isNotPrint32_eq] at r4
  rw [Rows.laid_strconv_isGraphic, grTab_eq] at r5
  have t1 := tabSlice_of_reads gP16 yP16 Tryd.underlying125 Tryd.underlying124 cells16 (by decide) r1
  have t2 := tabSlice_of_reads gN16 yN16 Tryd.underlying125 Tryd.underlying124 cells16 (by decide) r2
  have t3 := tabSlice_of_reads gP32 yP32 Tryd.underlying128 Tryd.underlying94 cells32 (by decide) r3
  have t4 := tabSlice_of_reads gN32 yN32 Tryd.underlying125 Tryd.underlying124 cells16 (by decide) r4
  have t5 := tabSlice_of_reads gGr yGr Tryd.underlying125 Tryd.underlying124 cells16 grTab_len.1 r5
  exact ⟨grTab_len, fun w' hb => ⟨⟨tab_on t1 hb, tab_on t2 hb, tab_on t3 hb, tab_on t4 hb, by decide, by decide, by decide⟩, tab_on t5 hb⟩⟩

theorem u8x : U8Extra Tryd.prog Tryd.lays260_ren := ⟨by kernel_rfl, by kernel_rfl, by kernel_rfl, by kernel_rfl, by kernel_rfl, by kernel_rfl, by kernel_rfl⟩
theorem utf8_of {l : List (String × DataW Unit)} {W : World} (h : laidMet Tryd.prog l W)
    (m1 : ("unicode/utf8.first", Rows.laid_unicode_utf8_first) ∈ l) (m2 : ("unicode/utf8.acceptRanges", Rows.laid_unicode_utf8_acceptRanges) ∈ l) : Utf8Ok W := by
  have r1 := laidMet.reads h m1
  have r2 := laidMet.reads h m2
  rw [Rows.laid_unicode_utf8_first, Pinned.utf8First_eq] at r1
  have e2 : (Rows.laid_unicode_utf8_acceptRanges : DataW Unit) = acceptData := by kernel_rfl
  rw [e2] at r2
  have hT := utf8Tabs_of_reads Tryd.lays260 u8x r1 r2
  exact fun w' hb => Utf8Tabs_below hT hb

/-- The tables of numbers and of texts. -/
structure EnvS (w : World) : Prop where
  nums : Env w.heap.size w
  print : PrintOk goPrintTabs grTab w
  utf8 : Utf8Ok w
theorem env_script {W : World} (h : laidMet Tryd.prog Rows.fnScriptUptoRow.laid W) : EnvS W :=
  ⟨env_nums h, print_of h (by simp [Rows.fnScriptUptoRow]) (by simp [Rows.fnScriptUptoRow]) (by simp [Rows.fnScriptUptoRow]) (by simp [Rows.fnScriptUptoRow]) (by simp [Rows.fnScriptUptoRow]), utf8_of h (by simp [Rows.fnScriptUptoRow]) (by simp [Rows.fnScriptUptoRow])⟩
end Go.Proofs.YthjkpkkkjndjlaaDoor
