/- Small leaves: laws.based, internal/strconv.isPowerOfTwo, math/bits.TrailingZeros at the five powers of two. -/
import Derived.Test.YtenepfefpoiddaaDoorProg
import Derived.WalkKit
import Derived.WalkLawsBesides
import Derived.WalkSpells
import Derived.Outline
import Derived.Lib.LaidTab
namespace Go.Proofs.YtenepfefpoiddaaDoor
open Go.RowKit

theorem based_any (b : Int) (w : World) :
    Calls Tryd.prog 21 #[.int .i64 b] w fun e w' => e = .returned (.bool (decide (2 ≤ b ∧ b ≤ 36))) ∧ w = w' := by
  by_cases h1 : 2 ≤ b
  · by_cases h2 : b ≤ 36
    · go_enter Tryd.func21, Tryd.ntmps21
      go_wp2
      go_ret
      exact ⟨by simp [h1, h2], rfl⟩
    · go_enter Tryd.func21, Tryd.ntmps21
      go_wp2
      go_ret
      exact ⟨by simp [h2], rfl⟩
  · go_enter Tryd.func21, Tryd.ntmps21
    go_wp2
    go_ret
    exact ⟨by simp; omega, rfl⟩

/-- Is b one of the five powers of two from 2 to 36? -/
def isP (b : Nat) : Bool := b == 2 || b == 4 || b == 8 || b == 16 || b == 32
theorem isP_fin : ∀ i : Fin 37, 2 ≤ i.val → (bits BinOp.and IntKind.i64 (i.val : Int) ((i.val : Int) - 1) == 0) = isP i.val := by decide +kernel

theorem isPow_any (b : Nat) (w : World) (h1 : 2 ≤ b) (h2 : b ≤ 36) :
    Calls Tryd.prog 71 #[.int .i64 b] w fun e w' => e = .returned (.bool (isP b)) ∧ w = w' := by
  go_enter Tryd.func71, Tryd.ntmps71
  go_wp2
  go_ret
  exact ⟨by rw [← isP_fin ⟨b, by omega⟩ h1]; rfl, rfl⟩

/-- math/bits.deBruijn64tab, as the row lists it. -/
def dbTab : List Int := [0, 1, 56, 2, 57, 49, 28, 3, 61, 58, 42, 50, 38, 29, 17, 4, 62, 47, 59, 36, 45, 43, 51, 22, 53, 39, 33, 30, 24, 18, 12, 5, 63, 55, 48, 27, 60, 41, 37, 16, 46, 35, 44, 21, 52, 32, 23, 11, 54, 26, 40, 15, 34, 20, 31, 10, 25, 14, 19, 9, 13, 8, 7, 6]

theorem gDb : Tryd.prog.globalNamed "math/bits.deBruijn64tab" = some 4 := by kernel_rfl

theorem tz_core (b j t : Nat) (w : World) (h1 : 2 ≤ b) (h2 : b ≤ 36) (hj : j < 64) (ht : t ≤ 5)
    (hx : IntKind.u64.wrap (bits BinOp.and IntKind.u64 (b : Int) (IntKind.u64.wrap (-(b : Int))) * 285870213051353865) / 288230376151711744 = (j : Int))
    (hc : w.cell? ⟨4, j, none⟩ = some (.int .u8 (t : Int))) :
    Calls Tryd.prog 72 #[.int .u64 b] w fun e w' => e = .returned (.int .i64 t) ∧ w = w' := by
  go_enter Tryd.func72, Tryd.ntmps72
  go_wp2
  go_ret
  exact ⟨rfl, rfl⟩

theorem tz_pow (b s : Nat) (hs : b = 2 ^ s) (h0 : 1 ≤ s) (h5 : s ≤ 5) (w : World) (h : Lib.TabIs Tryd.prog w "math/bits.deBruijn64tab" .u8 dbTab) :
    Calls Tryd.prog 72 #[.int .u64 b] w fun e w' => e = .returned (.int .i64 s) ∧ w = w' := by
  have c := fun (j : Nat) (hj : j < dbTab.length) => h.cell gDb j hj
  obtain rfl | rfl | rfl | rfl | rfl : s = 1 ∨ s = 2 ∨ s = 3 ∨ s = 4 ∨ s = 5 := by omega
  · subst hs; exact tz_core 2 1 1 w (by decide) (by decide) (by decide) (by decide) (by decide +kernel) (c 1 (by decide))
  · subst hs; exact tz_core 4 3 2 w (by decide) (by decide) (by decide) (by decide) (by decide +kernel) (c 3 (by decide))
  · subst hs; exact tz_core 8 7 3 w (by decide) (by decide) (by decide) (by decide) (by decide +kernel) (c 7 (by decide))
  · subst hs; exact tz_core 16 15 4 w (by decide) (by decide) (by decide) (by decide) (by decide +kernel) (c 15 (by decide))
  · subst hs; exact tz_core 32 31 5 w (by decide) (by decide) (by decide) (by decide) (by decide +kernel) (c 31 (by decide))

theorem isP_pow (b : Nat) (h : isP b = true) : ∃ s, b = 2 ^ s ∧ 1 ≤ s ∧ s ≤ 5 := by
  simp [isP] at h
  rcases h with (((h | h) | h) | h) | h
  · exact ⟨1, h, by decide, by decide⟩
  · exact ⟨2, h, by decide, by decide⟩
  · exact ⟨3, h, by decide, by decide⟩
  · exact ⟨4, h, by decide, by decide⟩
  · exact ⟨5, h, by decide, by decide⟩
end Go.Proofs.YtenepfefpoiddaaDoor
