/- internal/strconv.FormatUint, strconv.FormatUint, impl.FormatUint: the text of a number in every base from 2 to 36. -/
import Derived.Test.YtjcejkenjmkinaaDoorBits
import Derived.Test.YtjcejkenjmkinaaDoorFmt
import Derived.Lib.AppendIntMem
namespace Go.Proofs.YtjcejkenjmkinaaDoor
open Go.RowKit Go.Lib Go.Sort

/-- THE TABLES OF THE LIBRARY READ AS THEIR INITIALISERS LAY THEM, whatever is done from block B on. -/
structure Env (B : Nat) (w : World) : Prop where
  pow : Lib.TabBelow Tryd.prog B w "internal/strconv.uint64pow10" .u64 Lib.pow10Tab
  dbj : Lib.TabBelow Tryd.prog B w "math/bits.deBruijn64tab" .u8 dbTab
  le : B ≤ w.heap.size
theorem Env.on {B : Nat} {w w' : World} (h : Env B w) (hb : Below B w w') : Env B w' := ⟨h.pow.on hb, h.dbj.on hb, Nat.le_trans h.le hb.size⟩
theorem Env.on' {B : Nat} {w w' : World} (h : Env B w) (hb : Below w.heap.size w w') : Env B w' := h.on (hb.mono h.le)

theorem zero24 (w : World) : (zeroValue 32).run Tryd.prog w = .ok (.agg Lib.zeros24) w := by kernel_rfl

theorem slice24 (blk nd : Nat) (hi : nd ≤ 24) (W : World) : (Instr.sliceAt 32 (.pointer (some ⟨blk, 0, none⟩)) none (some (.int .i64 (nd : Int))) none).run Tryd.prog W = .ok (.slice (some ⟨blk, 0, none⟩) nd 24) W := by
  have hal : Tryd.prog.arrayLen 32 = 24 := by simp [Program.arrayLen, Tryd.underlying32]
  rw [run_sliceAt_array_h W 32 ⟨blk, 0, none⟩ (by simp [Program.arrayLen, Program.elem, Tryd.underlying32]) .i64 (nd : Int) (by omega) (by rw [hal]; omega)]
  go_simp

/-- The base's guard in its walk. -/
theorem formatBits_any (b u B : Nat) (w : World) (hb : 2 ≤ b) (hb2 : b ≤ 36) (hb10 : b ≠ 10) (hu : u < 18446744073709551616) (hE : Env B w) :
    Calls Tryd.prog 19 #[.slice none 0 0, .int .u64 u, .int .i64 b, .bool false, .bool false] w fun e w' =>
      e = .returned (.tuple #[.slice none 0 0, .string (str b u)]) ∧ Below w.heap.size w w' := by
  cases h : isP b
  · exact formatBits_gen b u w hb hb2 hb10 hu (fun w => by have := isPow_any b w hb hb2; rwa [h] at this)
  · obtain ⟨s, hs, hs1, hs5⟩ := isP_pow b h
    exact formatBits_pow b s u w hb hb2 hb10 hu (fun w => by have := isPow_any b w hb hb2; rwa [h] at this) hs hs5
      (fun w' hw => tz_pow b s hs hs1 hs5 w' (hE.dbj w' (hw.mono hE.le)))

set_option maxHeartbeats 2000000 in
set_option maxRecDepth 100000 in
theorem iFormatUint_10 (u B : Nat) (w : World) (hu : u < 18446744073709551616) (hE : Env B w) :
    Calls Tryd.prog 15 #[.int .u64 u, .int .i64 10] w fun e w' =>
      e = .returned (.string (str 10 u)) ∧ Below w.heap.size w w' := by
  by_cases h100 : u < 100
  · go_enter Tryd.func15, Tryd.ntmps15
    go_wp2_with (go_at_call 16; refine (Tryd.internal_strconv_small u h100 _).mono ?_; rintro e w' ⟨rfl, rfl⟩)
    go_ret
    exact ⟨by rw [decDigits_text]; rfl, Below.refl _ _⟩
  · have hnd20 : Lib.nDigits u ≤ 20 := by have := Lib.numDigits_eq u (by omega) hu; split at this <;> omega
    have hsl := slice24 w.heap.size (Lib.nDigits u) (by omega)
    have hz := zero24
    have hH0 := Lib.holds_zero0 w 32 (Lib.nDigits u) (by omega)
    have hfmt := Tryd.internal_strconv_formatBase10 w.heap.size 0 24 u (Array.replicate (Lib.nDigits u) 0) (w.alloc (.cells Lib.zeros24 32)) hH0 (by rw [Array.size_replicate]; exact Lib.lt_pow_nDigits u) hu (by rw [Array.size_replicate]; omega)
    rw [Array.size_replicate] at hfmt
    have HH0 := Lib.hid hH0
    have HF := Lib.hid hfmt
    clear hH0 hfmt
    go_enter Tryd.func15, Tryd.ntmps15
    go_wp2_with (go_at_call 17; refine (Tryd.internal_strconv_numDigits u (by omega) hu _ (hE.pow _ ((Below.refl _ _).alloc hE.le _))).mono ?_; rintro e w' ⟨rfl, rfl⟩)
    go_at_call 18
    refine HF.out.mono ?_
    rintro e w' ⟨rfl, k, v', dk, rfl, hF⟩
    have hcv : (convert 28 9 (.slice (some ⟨w.heap.size, 0, none⟩) (Lib.nDigits u) 24)).run Tryd.prog ((putRow (fun (b : UInt8) => Value.int .u8 (b.toNat : Int)) (w.alloc (.cells Lib.zeros24 32)) w.heap.size 0 dk).drewN k) = .ok (.string ⟨(Lib.decDigits u).toArray⟩) ((putRow (fun (b : UInt8) => Value.int .u8 (b.toNat : Int)) (w.alloc (.cells Lib.zeros24 32)) w.heap.size 0 dk).drewN k) := by
      have h := run_convert_bytes_back (P := Tryd.prog) ((putRow (fun (b : UInt8) => Value.int .u8 (b.toNat : Int)) (w.alloc (.cells Lib.zeros24 32)) w.heap.size 0 dk).drewN k) 28 9 5 ⟨w.heap.size, 0, none⟩ 24 (Lib.decDigits u) Tryd.underlying28 Tryd.underlying5 Tryd.underlying9 (fun j hj => by
        rw [Lib.row_is_numeral hF j hj, Lib.add_plain, World.cell?_drewN]
        exact cell?_putRow (fun (b : UInt8) => Value.int .u8 (b.toNat : Int)) _ w.heap.size 0 _ dk HH0.out (by rw [hF.size, Array.size_replicate]) j (by rw [hF.size]; rw [Lib.decDigits_length] at hj; exact hj))
      rw [Lib.decDigits_length] at h
      exact h
    go_wp2
    go_ret
    obtain ⟨os, eo⟩ := Lib.fin_at w (.cells Lib.zeros24 32) dk k 0
    exact ⟨by rw [decDigits_text]; rfl, by rw [eo]; exact Lib.below_grow _ _ (Nat.le_refl _) _ _⟩

set_option maxRecDepth 100000 in
theorem iFormatUint_any (b u B : Nat) (w : World) (hb : 2 ≤ b) (hb2 : b ≤ 36) (hu : u < 18446744073709551616) (hE : Env B w) :
    Calls Tryd.prog 15 #[.int .u64 u, .int .i64 b] w fun e w' =>
      e = .returned (.string (str b u)) ∧ Below w.heap.size w w' := by
  by_cases h10 : b = 10
  · subst h10; exact iFormatUint_10 u B w hu hE
  · have h10' : ((b : Int) == 10) = false := by simp; omega
    go_enter Tryd.func15, Tryd.ntmps15
    go_wp2_with (go_at_call 19; refine (formatBits_any b u B _ hb hb2 h10 hu hE).mono ?_; rintro e w' ⟨rfl, hw⟩)
    go_ret
    exact ⟨rfl, hw⟩

theorem sFormatUint_any (b u B : Nat) (w : World) (hb : 2 ≤ b) (hb2 : b ≤ 36) (hu : u < 18446744073709551616) (hE : Env B w) :
    Calls Tryd.prog 14 #[.int .u64 u, .int .i64 b] w fun e w' =>
      e = .returned (.string (str b u)) ∧ Below w.heap.size w w' := by
  go_enter Tryd.func14, Tryd.ntmps14
  go_wp2_with (go_at_call 15; refine (iFormatUint_any b u B _ hb hb2 hu hE).mono ?_; rintro e w' ⟨rfl, hw⟩)
  go_ret
  exact ⟨rfl, hw⟩

/-- impl.FormatUint: the text of u in base b; new memory alone. -/
theorem FormatUint_any (b u B : Nat) (w : World) (hb : 2 ≤ b) (hb2 : b ≤ 36) (hu : u < 18446744073709551616) (hE : Env B w) :
    Calls Tryd.prog 11 #[.int .u64 u, .int .i64 b] w fun e w' =>
      e = .returned (.string (str b u)) ∧ Below w.heap.size w w' := by
  go_enter Tryd.func11, Tryd.ntmps11
  go_wp2_with (go_at_call 14; refine (sFormatUint_any b u B _ hb hb2 hu hE).mono ?_; rintro e w' ⟨rfl, hw⟩)
  go_ret
  exact ⟨rfl, hw⟩
/-- The same at a number that the walk spells otherwise. -/
theorem FormatUint_of (n : Int) (b u B : Nat) (hn : n = (u : Int)) (w : World) (hb : 2 ≤ b) (hb2 : b ≤ 36) (hu : u < 18446744073709551616) (hE : Env B w) :
    Calls Tryd.prog 11 #[.int .u64 n, .int .i64 b] w fun e w' =>
      e = .returned (.string (str b u)) ∧ Below w.heap.size w w' := by
  subst hn
  exact FormatUint_any b u B w hb hb2 hu hE
end Go.Proofs.YtjcejkenjmkinaaDoor
