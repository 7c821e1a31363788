/- internal/strconv.FormatInt, strconv.FormatInt, impl.FormatInt: the text of a number with its sign in every base from 2 to 36; spec.Size. -/
import Derived.Test.YtenepfefpoiddaaDoorInt
namespace Go.Proofs.YtenepfefpoiddaaDoor
open Go.RowKit

theorem formatBits_anyN (b u U B : Nat) (w : World) (hb : 2 ≤ b) (hb2 : b ≤ 36) (hb10 : b ≠ 10) (hu : u < 18446744073709551616) (hneg : IntKind.u64.wrap (-(U : Int)) = (u : Int)) (hE : Env B w) :
    Calls Tryd.prog 59 #[.slice none 0 0, .int .u64 U, .int .i64 b, .bool true, .bool false] w fun e w' =>
      e = .returned (.tuple #[.slice none 0 0, .string (bs (45 :: text b u))]) ∧ Below w.heap.size w w' := by
  cases h : isP b
  · exact formatBits_genN b u U w hb hb2 hb10 hu hneg (fun w => by have := isPow_any b w hb hb2; rwa [h] at this)
  · obtain ⟨s, hs, hs1, hs5⟩ := isP_pow b h
    exact formatBits_powN b s u U w hb hb2 hb10 hu hneg (fun w => by have := isPow_any b w hb hb2; rwa [h] at this) hs hs5
      (fun w' hw => tz_pow b s hs hs1 hs5 w' (hE.dbj w' (hw.mono hE.le)))

set_option maxRecDepth 100000 in
theorem iFormatInt_any (b B : Nat) (n : Int) (w : World) (hb : 2 ≤ b) (hb2 : b ≤ 36) (h0 : -9223372036854775808 ≤ n) (h1 : n ≤ 9223372036854775807) (hE : Env B w) :
    Calls Tryd.prog 52 #[.int .i64 n, .int .i64 b] w fun e w' =>
      e = .returned (.string (istr b n)) ∧ Below w.heap.size w w' := by
  by_cases h10 : b = 10
  · subst h10
    refine (Tryd.internal_strconv_FormatInt_10 n h0 h1 w (hE.pow w (Below.refl _ _))).mono ?_
    rintro e w' ⟨rfl, k, os, rfl⟩
    exact ⟨by rw [itoa_istr], Lib.below_grow _ _ (Nat.le_refl _) _ _⟩
  · have h10' : ((b : Int) == 10) = false := by simp; omega
    by_cases hn : n < 0
    · have hw64 : IntKind.u64.wrap n = ((18446744073709551616 - n.natAbs : Nat) : Int) := by rw [IntKind.wrap_u64]; omega
      have HF := Lib.hid (formatBits_anyN b n.natAbs (18446744073709551616 - n.natAbs) B w hb hb2 h10 (by omega) (by rw [IntKind.wrap_u64]; omega) hE)
      have hit : istr b n = bs (45 :: text b n.natAbs) := by rw [istr, itext_neg hn]
      rw [← hit] at HF
      have HT := Lib.hid hit
      clear hit
      have hd : decide (n < 0) = true := by simpa using hn
      generalize 18446744073709551616 - n.natAbs = U at *
      generalize istr b n = S at *
      go_enter Tryd.func52, Tryd.ntmps52
      go_wp2_with (go_at_call 59; refine HF.out.mono ?_; rintro e w' ⟨rfl, hw⟩)
      go_ret
      exact ⟨rfl, hw⟩
    · obtain ⟨u, rfl⟩ : ∃ u : Nat, n = (u : Int) := ⟨n.toNat, by omega⟩
      have HF := Lib.hid (formatBits_any b u B w hb hb2 h10 (by omega) hE)
      have hit : istr b (u : Int) = str b u := istr_pos (by omega)
      rw [← hit] at HF
      clear hit
      generalize istr b (u : Int) = S at *
      have hd : decide ((u : Int) < 0) = false := by simp
      go_enter Tryd.func52, Tryd.ntmps52
      go_wp2_with (go_at_call 59; refine HF.out.mono ?_; rintro e w' ⟨rfl, hw⟩)
      go_ret
      exact ⟨rfl, hw⟩

theorem sFormatInt_any (b B : Nat) (n : Int) (w : World) (hb : 2 ≤ b) (hb2 : b ≤ 36) (h0 : -9223372036854775808 ≤ n) (h1 : n ≤ 9223372036854775807) (hE : Env B w) :
    Calls Tryd.prog 42 #[.int .i64 n, .int .i64 b] w fun e w' =>
      e = .returned (.string (istr b n)) ∧ Below w.heap.size w w' := by
  have HF := Lib.hid (iFormatInt_any b B n w hb hb2 h0 h1 hE)
  generalize istr b n = S at *
  go_enter Tryd.func42, Tryd.ntmps42
  go_wp2_with (go_at_call 52; refine HF.out.mono ?_; rintro e w' ⟨rfl, hw⟩)
  go_ret
  exact ⟨rfl, hw⟩

/-- impl.FormatInt: the text of n in base b; new memory alone. -/
theorem FormatInt_any (b B : Nat) (n : Int) (w : World) (hb : 2 ≤ b) (hb2 : b ≤ 36) (h0 : -9223372036854775808 ≤ n) (h1 : n ≤ 9223372036854775807) (hE : Env B w) :
    Calls Tryd.prog 24 #[.int .i64 n, .int .i64 b] w fun e w' =>
      e = .returned (.string (istr b n)) ∧ Below w.heap.size w w' := by
  have HF := Lib.hid (sFormatInt_any b B n w hb hb2 h0 h1 hE)
  generalize istr b n = S at *
  go_enter Tryd.func24, Tryd.ntmps24
  go_wp2_with (go_at_call 42; refine HF.out.mono ?_; rintro e w' ⟨rfl, hw⟩)
  go_ret
  exact ⟨rfl, hw⟩

theorem size_any (n : Int) (w : World) (h0 : -9223372036854775808 ≤ n) (h1 : n ≤ 9223372036854775807) :
   Calls Tryd.prog 36 #[.int .i64 n] w fun e w' => e = .returned (.int .u64 (n.natAbs : Nat)) ∧ w = w' := by
 by_cases hn : n < 0
 · have hd : decide (n < 0) = true := by simpa using hn
   go_enter Tryd.func36, Tryd.ntmps36
   go_wp2
   go_ret
   refine ⟨?_, rfl⟩
   show Ending.returned (.int .u64 (-(n + 1) + 1)) = _
   rw [show -(n + 1) + 1 = (n.natAbs : Int) by omega]
 · have hd : decide (n < 0) = false := by simpa using hn
   go_enter Tryd.func36, Tryd.ntmps36
   go_wp2
   go_ret
   refine ⟨?_, rfl⟩
   show Ending.returned (.int .u64 n) = _
   rw [show (n.natAbs : Int) = n by omega]
end Go.Proofs.YtenepfefpoiddaaDoor
