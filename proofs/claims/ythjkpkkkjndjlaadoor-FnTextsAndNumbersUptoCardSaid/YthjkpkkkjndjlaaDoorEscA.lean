/- strconv.appendEscapedRune, onto a buffer that the call owns, an arm a theorem; the last letter of the file's name: A (QuoteToASCII), G (QuoteToGraphic; strconv.isInGraphicList as well), R (QuoteRuneToASCII). -/
import Derived.Test.YthjkpkkkjndjlaaDoorB
import Derived.Test.YthjkpkkkjndjlaaDoorQ
import Derived.Test.YthjkpkkkjndjlaaDoorShelf
import Derived.Lib.BufSteps
import Derived.Lib.QuoteHex
import Derived.LoopN
import Derived.WalkKit
import Derived.WalkLawsBesides
import Derived.WalkSpells
import Derived.BigCall
import Derived.BigGuard
import Derived.BigGuardPart
import Derived.Outline
set_option linter.unusedVariables false
namespace Go.Proofs.YthjkpkkkjndjlaaDoor
open Go.RowKit

set_option maxHeartbeats 4000000 in
set_option maxRecDepth 1000000 in
theorem escA_quoted (B : Nat) (v : Value) (n : Nat) (xs : List Value) (r : Int) (W0 w : World)
    (hb : Lib.OwnBuf B 5 v n xs W0 w) (hlen : n + 10 ≤ 140737488355328) (hr0 : 0 ≤ r) (hr1 : r ≤ 1114111) (hq : r = 34 ∨ r = 92) :
    Calls Tryd.prog 68 #[v, .int .i32 r, .int .u8 34, .bool true, .bool false] w fun e w' => ∃ v', e = .returned v' ∧ Lib.OwnBuf B 5 v' (n + ([92, r]).length) (xs ++ Lib.intCells ([92, r])) W0 w' := by
  obtain ⟨i0, hi, hz0, hz1, hz2⟩ := info_parts infoU8
  have hw8 : IntKind.u8.wrap r = r := by rcases hq with rfl | rfl <;> rfl
  go_enter Tryd.func68, Tryd.ntmps68
  rcases hq with rfl | rfl
  all_goals (
    go_big_wp2_with (at_builtin; first
      | (refine Lib.wpList_append_byte rfl _ _ 40 rfl B 5 i0 Tryd.underlying40 hi hz0 hz1 hz2 _ _ _ rfl W0 _ _ (by assumption) rfl (by first | omega | (simp only [Lib.size_two]; omega)) ?_; intro _ _ hb)
      | (refine Lib.wpList_append_text rfl _ _ 40 9 rfl B 5 i0 Tryd.underlying40 Tryd.underlying9 hi hz0 hz1 hz2 _ _ _ rfl W0 (by assumption) _ rfl (by first | omega | (simp only [Lib.size_two]; omega)) ?_; intro _ _ hb))
    go_ret
    refine ⟨_, rfl, ?_⟩
    simpa [Lib.intCells, List.append_assoc] using hb)

set_option maxHeartbeats 4000000 in
set_option maxRecDepth 1000000 in
theorem escA_printed (B : Nat) (v : Value) (n : Nat) (xs : List Value) (r : Int) (W0 w : World)
    (hb : Lib.OwnBuf B 5 v n xs W0 w) (hlen : n + 10 ≤ 140737488355328) (hr0 : 0 ≤ r) (hr1 : r ≤ 1114111) (hq1 : ¬ (r = 34 ∨ r = 92)) (h128 : r < 128) (hP : Calls Tryd.prog 85 #[.int .i32 r] w fun e w' => e = .returned (.bool true) ∧ ∃ q, w' = w.drewN q) :
    Calls Tryd.prog 68 #[v, .int .i32 r, .int .u8 34, .bool true, .bool false] w fun e w' => ∃ v', e = .returned v' ∧ Lib.OwnBuf B 5 v' (n + ([r]).length) (xs ++ Lib.intCells ([r])) W0 w' := by
  obtain ⟨i0, hi, hz0, hz1, hz2⟩ := info_parts infoU8
  have hbq : ∀ q, Lib.OwnBuf B 5 v n xs W0 (w.drewN q) := hb.drewN
  have HP := Lib.hid hP
  clear hP
  have hw8 : IntKind.u8.wrap r = r := by rw [IntKind.wrap_u8']; omega
  have hq34 : (r == 34) = false := by simp; omega
  have hq92 : (r == 92) = false := by simp; omega
  clear hb
  go_enter Tryd.func68, Tryd.ntmps68
  go_big_wp2_with (first | (go_at_call 85; refine HP.out.mono ?_; rintro e w1 ⟨rfl, q1, rfl⟩; have hb1 := hbq q1) | (at_builtin; first
      | (refine Lib.wpList_append_byte rfl _ _ 40 rfl B 5 i0 Tryd.underlying40 hi hz0 hz1 hz2 _ _ _ rfl W0 _ _ (by assumption) rfl (by first | omega | (simp only [Lib.size_two]; omega)) ?_; intro _ _ hb)
      | (refine Lib.wpList_append_text rfl _ _ 40 9 rfl B 5 i0 Tryd.underlying40 Tryd.underlying9 hi hz0 hz1 hz2 _ _ _ rfl W0 (by assumption) _ rfl (by first | omega | (simp only [Lib.size_two]; omega)) ?_; intro _ _ hb)))
  go_ret
  refine ⟨_, rfl, ?_⟩
  simpa [Lib.intCells, List.append_assoc] using hb

set_option maxHeartbeats 4000000 in
set_option maxRecDepth 1000000 in
theorem escA_named (B : Nat) (v : Value) (n : Nat) (xs : List Value) (r : Int) (W0 w : World)
    (hb : Lib.OwnBuf B 5 v n xs W0 w) (hlen : n + 10 ≤ 140737488355328) (hr0 : 0 ≤ r) (hr1 : r ≤ 1114111) (hn : r = 7 ∨ r = 8 ∨ r = 12 ∨ r = 10 ∨ r = 13 ∨ r = 9 ∨ r = 11) (hP : Calls Tryd.prog 85 #[.int .i32 r] w fun e w' => e = .returned (.bool false) ∧ ∃ q, w' = w.drewN q) :
    Calls Tryd.prog 68 #[v, .int .i32 r, .int .u8 34, .bool true, .bool false] w fun e w' => ∃ v', e = .returned v' ∧ Lib.OwnBuf B 5 v' (n + (escT r).length) (xs ++ Lib.intCells (escT r)) W0 w' := by
  obtain ⟨i0, hi, hz0, hz1, hz2⟩ := info_parts infoU8
  have hbq : ∀ q, Lib.OwnBuf B 5 v n xs W0 (w.drewN q) := hb.drewN
  have HP := Lib.hid hP
  clear hP
  clear hb
  go_enter Tryd.func68, Tryd.ntmps68
  rcases hn with rfl | rfl | rfl | rfl | rfl | rfl | rfl
  all_goals (
    go_big_wp2_with (first | (go_at_call 85; refine HP.out.mono ?_; rintro e w1 ⟨rfl, q1, rfl⟩; have hb1 := hbq q1) | (at_builtin; first
      | (refine Lib.wpList_append_byte rfl _ _ 40 rfl B 5 i0 Tryd.underlying40 hi hz0 hz1 hz2 _ _ _ rfl W0 _ _ (by assumption) rfl (by first | omega | (simp only [Lib.size_two]; omega)) ?_; intro _ _ hb)
      | (refine Lib.wpList_append_text rfl _ _ 40 9 rfl B 5 i0 Tryd.underlying40 Tryd.underlying9 hi hz0 hz1 hz2 _ _ _ rfl W0 (by assumption) _ rfl (by first | omega | (simp only [Lib.size_two]; omega)) ?_; intro _ _ hb)))
    go_ret
    refine ⟨_, rfl, ?_⟩
    simpa [Lib.intCells, escT, Lib.strCells, ByteArray.size] using hb)

set_option maxHeartbeats 4000000 in
set_option maxRecDepth 1000000 in
theorem escA_hex2 (B : Nat) (v : Value) (n : Nat) (xs : List Value) (r : Int) (W0 w : World)
    (hb : Lib.OwnBuf B 5 v n xs W0 w) (hlen : n + 10 ≤ 140737488355328) (hr0 : 0 ≤ r) (hr1 : r ≤ 1114111) (hx : r < 32 ∨ r = 127) (hn : ¬ (r = 7 ∨ r = 8 ∨ r = 12 ∨ r = 10 ∨ r = 13 ∨ r = 9 ∨ r = 11)) (hP : Calls Tryd.prog 85 #[.int .i32 r] w fun e w' => e = .returned (.bool false) ∧ ∃ q, w' = w.drewN q) :
    Calls Tryd.prog 68 #[v, .int .i32 r, .int .u8 34, .bool true, .bool false] w fun e w' => ∃ v', e = .returned v' ∧ Lib.OwnBuf B 5 v' (n + ([92, 120, Lib.hexDigit (r.toNat / 16), Lib.hexDigit (r.toNat % 16)]).length) (xs ++ Lib.intCells ([92, 120, Lib.hexDigit (r.toNat / 16), Lib.hexDigit (r.toNat % 16)])) W0 w' := by
  obtain ⟨i0, hi, hz0, hz1, hz2⟩ := info_parts infoU8
  have hbq : ∀ q, Lib.OwnBuf B 5 v n xs W0 (w.drewN q) := hb.drewN
  have HP := Lib.hid hP
  clear hP
  obtain ⟨k, hk⟩ := Int.eq_ofNat_of_zero_le hr0
  have hw8 : IntKind.u8.wrap r = r := by rw [IntKind.wrap_u8']; omega
  obtain ⟨d0, hd0⟩ : ∃ d, d = k / 16 := ⟨_, rfl⟩
  obtain ⟨d1, hd1⟩ : ∃ d, d = k % 16 := ⟨_, rfl⟩
  have hD0 : r / 16 = (d0 : Int) := by rw [hd0]; omega
  have hD1 : bits .and .u8 r 15 = (d1 : Int) := by
    have e := u8_and_nat k 15 (by omega) (by omega)
    rw [hk, hd1]; rw [show k &&& 15 = k % 16 from Nat.and_two_pow_sub_one_eq_mod k 4] at e; exact e
  have hL0 : d0 < 16 := by omega
  have hL1 : d1 < 16 := by omega
  have hL0' : (d0 : Int) < 16 := by omega
  have hL1' : (d1 : Int) < 16 := by omega
  have HD0 := Lib.hid hd0
  have HD1 := Lib.hid hd1
  have Hk := Lib.hid hk
  have q34 : (r == 34) = false := by simp; omega
  have q92 : (r == 92) = false := by simp; omega
  have b128 : decide (r < 128) = true := by simp; omega
  have b7 : (r == 7) = false := by simp; omega
  have b8 : (r == 8) = false := by simp; omega
  have b12 : (r == 12) = false := by simp; omega
  have b10 : (r == 10) = false := by simp; omega
  have b13 : (r == 13) = false := by simp; omega
  have b9 : (r == 9) = false := by simp; omega
  have b11 : (r == 11) = false := by simp; omega
  clear hd0 hd1 hk hb hn
  rcases hx with hx | hx
  · have hlt : decide (r < 32) = true := by simpa using hx
    go_enter Tryd.func68, Tryd.ntmps68
    go_big_wp2_with (first | (go_at_call 85; refine HP.out.mono ?_; rintro e w1 ⟨rfl, q1, rfl⟩; have hb1 := hbq q1) | (at_builtin; first
      | (refine Lib.wpList_append_byte rfl _ _ 40 rfl B 5 i0 Tryd.underlying40 hi hz0 hz1 hz2 _ _ _ rfl W0 _ _ (by assumption) rfl (by first | omega | (simp only [Lib.size_two]; omega)) ?_; intro _ _ hb)
      | (refine Lib.wpList_append_text rfl _ _ 40 9 rfl B 5 i0 Tryd.underlying40 Tryd.underlying9 hi hz0 hz1 hz2 _ _ _ rfl W0 (by assumption) _ rfl (by first | omega | (simp only [Lib.size_two]; omega)) ?_; intro _ _ hb)))
    go_ret
    refine ⟨_, rfl, ?_⟩
    rw [show r.toNat / 16 = d0 by rw [HD0.out, Hk.out]; simp, show r.toNat % 16 = d1 by rw [HD1.out, Hk.out]; simp]
    simpa [Lib.intCells, Lib.strCells, Lib.size_two, Lib.lowerhex_at, List.append_assoc] using hb
  · have hlt : decide (r < 32) = false := by simp; omega
    have h7f : (r == 127) = true := by simpa using hx
    have HX := Lib.hid hx
    clear hx
    go_enter Tryd.func68, Tryd.ntmps68
    go_big_wp2_with (first | (go_at_call 85; refine HP.out.mono ?_; rintro e w1 ⟨rfl, q1, rfl⟩; have hb1 := hbq q1) | (at_builtin; first
      | (refine Lib.wpList_append_byte rfl _ _ 40 rfl B 5 i0 Tryd.underlying40 hi hz0 hz1 hz2 _ _ _ rfl W0 _ _ (by assumption) rfl (by first | omega | (simp only [Lib.size_two]; omega)) ?_; intro _ _ hb)
      | (refine Lib.wpList_append_text rfl _ _ 40 9 rfl B 5 i0 Tryd.underlying40 Tryd.underlying9 hi hz0 hz1 hz2 _ _ _ rfl W0 (by assumption) _ rfl (by first | omega | (simp only [Lib.size_two]; omega)) ?_; intro _ _ hb)))
    go_ret
    refine ⟨_, rfl, ?_⟩
    rw [show r.toNat / 16 = d0 by rw [HD0.out, Hk.out]; simp, show r.toNat % 16 = d1 by rw [HD1.out, Hk.out]; simp]
    simpa [Lib.intCells, Lib.strCells, Lib.size_two, Lib.lowerhex_at, List.append_assoc] using hb

set_option maxHeartbeats 4000000 in
set_option maxRecDepth 1000000 in
theorem escA_u4 (B : Nat) (v : Value) (n : Nat) (xs : List Value) (r : Int) (W0 w : World)
    (hb : Lib.OwnBuf B 5 v n xs W0 w) (hlen : n + 10 ≤ 140737488355328) (hr0 : 0 ≤ r) (hr1 : r ≤ 1114111) (h80 : 128 ≤ r) (hlt : r < 65536) (hv : Lib.validRune r = true)  :
    Calls Tryd.prog 68 #[v, .int .i32 r, .int .u8 34, .bool true, .bool false] w fun e w' => ∃ v', e = .returned v' ∧ Lib.OwnBuf B 5 v' (n + (92 :: 117 :: Lib.hexDigits r.toNat 4).length) (xs ++ Lib.intCells (92 :: 117 :: Lib.hexDigits r.toNat 4)) W0 w' := by
  obtain ⟨i0, hi, hz0, hz1, hz2⟩ := info_parts infoU8
  have hbq : ∀ q, Lib.OwnBuf B 5 v n xs W0 (w.drewN q) := hb.drewN
  obtain ⟨k, hk⟩ := Int.eq_ofNat_of_zero_le hr0
  have hk31 : k < 2147483648 := by omega
  obtain ⟨d0, hd0⟩ : ∃ d, d = k / 4096 % 16 := ⟨_, rfl⟩
  have hD0 : bits .and .i32 (r / 4096) 15 = (d0 : Int) := by
    have e := Lib.and15_shift (r) k hk hk31 4096
    rw [hd0]; simpa using e
  have hL0 : d0 < 16 := by omega
  have hL0' : (d0 : Int) < 16 := by omega
  have HD0 := Lib.hid hd0
  clear hd0
  obtain ⟨d1, hd1⟩ : ∃ d, d = k / 256 % 16 := ⟨_, rfl⟩
  have hD1 : bits .and .i32 (r / 256) 15 = (d1 : Int) := by
    have e := Lib.and15_shift (r) k hk hk31 256
    rw [hd1]; simpa using e
  have hL1 : d1 < 16 := by omega
  have hL1' : (d1 : Int) < 16 := by omega
  have HD1 := Lib.hid hd1
  clear hd1
  obtain ⟨d2, hd2⟩ : ∃ d, d = k / 16 % 16 := ⟨_, rfl⟩
  have hD2 : bits .and .i32 (r / 16) 15 = (d2 : Int) := by
    have e := Lib.and15_shift (r) k hk hk31 16
    rw [hd2]; simpa using e
  have hL2 : d2 < 16 := by omega
  have hL2' : (d2 : Int) < 16 := by omega
  have HD2 := Lib.hid hd2
  clear hd2
  obtain ⟨d3, hd3⟩ : ∃ d, d = k / 1 % 16 := ⟨_, rfl⟩
  have hD3 : bits .and .i32 (r) 15 = (d3 : Int) := by
    have e := Lib.and15_shift (r) k hk hk31 1
    rw [hd3]; simpa using e
  have hL3 : d3 < 16 := by omega
  have hL3' : (d3 : Int) < 16 := by omega
  have HD3 := Lib.hid hd3
  clear hd3
  have Hk := Lib.hid hk
  clear hk hk31
  have q34 : (r == 34) = false := by simp; omega
  have q92 : (r == 92) = false := by simp; omega
  have b7 : (r == 7) = false := by simp; omega
  have b8 : (r == 8) = false := by simp; omega
  have b12 : (r == 12) = false := by simp; omega
  have b10 : (r == 10) = false := by simp; omega
  have b13 : (r == 13) = false := by simp; omega
  have b9 : (r == 9) = false := by simp; omega
  have b11 : (r == 11) = false := by simp; omega
  have b127 : (r == 127) = false := by simp; omega
  have b32 : decide (r < 32) = false := by simp; omega
  have b128 : decide (r < 128) = false := by simp; omega
  have cV : ∀ W : World, Calls Tryd.prog 78 #[.int .i32 r] W fun e w' => e = .returned (.bool true) ∧ w' = W := fun W => by
    rw [← hv]; exact Tryd.utf8_ValidRune r W
  have CV := Lib.hid cV
  clear cV hv
  go_enter Tryd.func68, Tryd.ntmps68
  go_big_wp2_with (first | (go_at_call 78; refine (CV.out _).mono ?_; rintro e w2 ⟨rfl, rfl⟩) | (at_builtin; first
      | (refine Lib.wpList_append_byte rfl _ _ 40 rfl B 5 i0 Tryd.underlying40 hi hz0 hz1 hz2 _ _ _ rfl W0 _ _ (by assumption) rfl (by first | omega | (simp only [Lib.size_two]; omega)) ?_; intro _ _ hb)
      | (refine Lib.wpList_append_text rfl _ _ 40 9 rfl B 5 i0 Tryd.underlying40 Tryd.underlying9 hi hz0 hz1 hz2 _ _ _ rfl W0 (by assumption) _ rfl (by first | omega | (simp only [Lib.size_two]; omega)) ?_; intro _ _ hb)))
  refine wp_loop_rounds 5 ?_
  rw [rounds_succ]
  go_big_wp2_with (at_builtin; first
      | (refine Lib.wpList_append_byte rfl _ _ 40 rfl B 5 i0 Tryd.underlying40 hi hz0 hz1 hz2 _ _ _ rfl W0 _ _ (by assumption) rfl (by first | omega | (simp only [Lib.size_two]; omega)) ?_; intro _ _ hb)
      | (refine Lib.wpList_append_text rfl _ _ 40 9 rfl B 5 i0 Tryd.underlying40 Tryd.underlying9 hi hz0 hz1 hz2 _ _ _ rfl W0 (by assumption) _ rfl (by first | omega | (simp only [Lib.size_two]; omega)) ?_; intro _ _ hb))
  rw [rounds_succ]
  go_big_wp2_with (at_builtin; first
      | (refine Lib.wpList_append_byte rfl _ _ 40 rfl B 5 i0 Tryd.underlying40 hi hz0 hz1 hz2 _ _ _ rfl W0 _ _ (by assumption) rfl (by first | omega | (simp only [Lib.size_two]; omega)) ?_; intro _ _ hb)
      | (refine Lib.wpList_append_text rfl _ _ 40 9 rfl B 5 i0 Tryd.underlying40 Tryd.underlying9 hi hz0 hz1 hz2 _ _ _ rfl W0 (by assumption) _ rfl (by first | omega | (simp only [Lib.size_two]; omega)) ?_; intro _ _ hb))
  rw [rounds_succ]
  go_big_wp2_with (at_builtin; first
      | (refine Lib.wpList_append_byte rfl _ _ 40 rfl B 5 i0 Tryd.underlying40 hi hz0 hz1 hz2 _ _ _ rfl W0 _ _ (by assumption) rfl (by first | omega | (simp only [Lib.size_two]; omega)) ?_; intro _ _ hb)
      | (refine Lib.wpList_append_text rfl _ _ 40 9 rfl B 5 i0 Tryd.underlying40 Tryd.underlying9 hi hz0 hz1 hz2 _ _ _ rfl W0 (by assumption) _ rfl (by first | omega | (simp only [Lib.size_two]; omega)) ?_; intro _ _ hb))
  rw [rounds_succ]
  go_big_wp2_with (at_builtin; first
      | (refine Lib.wpList_append_byte rfl _ _ 40 rfl B 5 i0 Tryd.underlying40 hi hz0 hz1 hz2 _ _ _ rfl W0 _ _ (by assumption) rfl (by first | omega | (simp only [Lib.size_two]; omega)) ?_; intro _ _ hb)
      | (refine Lib.wpList_append_text rfl _ _ 40 9 rfl B 5 i0 Tryd.underlying40 Tryd.underlying9 hi hz0 hz1 hz2 _ _ _ rfl W0 (by assumption) _ rfl (by first | omega | (simp only [Lib.size_two]; omega)) ?_; intro _ _ hb))
  rw [rounds_succ]
  go_big_wp2_with (at_builtin; first
      | (refine Lib.wpList_append_byte rfl _ _ 40 rfl B 5 i0 Tryd.underlying40 hi hz0 hz1 hz2 _ _ _ rfl W0 _ _ (by assumption) rfl (by first | omega | (simp only [Lib.size_two]; omega)) ?_; intro _ _ hb)
      | (refine Lib.wpList_append_text rfl _ _ 40 9 rfl B 5 i0 Tryd.underlying40 Tryd.underlying9 hi hz0 hz1 hz2 _ _ _ rfl W0 (by assumption) _ rfl (by first | omega | (simp only [Lib.size_two]; omega)) ?_; intro _ _ hb))
  go_ret
  refine ⟨_, rfl, ?_⟩
  rw [show r.toNat = k by rw [Hk.out]; simp]
  simpa [Lib.intCells, Lib.strCells, Lib.size_two, Lib.lowerhex_at, Lib.hexDigits, List.append_assoc, HD0.out, HD1.out, HD2.out, HD3.out] using hb

set_option maxHeartbeats 4000000 in
set_option maxRecDepth 1000000 in
theorem escA_u8 (B : Nat) (v : Value) (n : Nat) (xs : List Value) (r : Int) (W0 w : World)
    (hb : Lib.OwnBuf B 5 v n xs W0 w) (hlen : n + 10 ≤ 140737488355328) (hr0 : 0 ≤ r) (hr1 : r ≤ 1114111) (h80 : 65536 ≤ r) (hv : Lib.validRune r = true)  :
    Calls Tryd.prog 68 #[v, .int .i32 r, .int .u8 34, .bool true, .bool false] w fun e w' => ∃ v', e = .returned v' ∧ Lib.OwnBuf B 5 v' (n + (92 :: 85 :: Lib.hexDigits r.toNat 8).length) (xs ++ Lib.intCells (92 :: 85 :: Lib.hexDigits r.toNat 8)) W0 w' := by
  obtain ⟨i0, hi, hz0, hz1, hz2⟩ := info_parts infoU8
  have hbq : ∀ q, Lib.OwnBuf B 5 v n xs W0 (w.drewN q) := hb.drewN
  obtain ⟨k, hk⟩ := Int.eq_ofNat_of_zero_le hr0
  have hk31 : k < 2147483648 := by omega
  obtain ⟨d0, hd0⟩ : ∃ d, d = k / 268435456 % 16 := ⟨_, rfl⟩
  have hD0 : bits .and .i32 (r / 268435456) 15 = (d0 : Int) := by
    have e := Lib.and15_shift (r) k hk hk31 268435456
    rw [hd0]; simpa using e
  have hL0 : d0 < 16 := by omega
  have hL0' : (d0 : Int) < 16 := by omega
  have HD0 := Lib.hid hd0
  clear hd0
  obtain ⟨d1, hd1⟩ : ∃ d, d = k / 16777216 % 16 := ⟨_, rfl⟩
  have hD1 : bits .and .i32 (r / 16777216) 15 = (d1 : Int) := by
    have e := Lib.and15_shift (r) k hk hk31 16777216
    rw [hd1]; simpa using e
  have hL1 : d1 < 16 := by omega
  have hL1' : (d1 : Int) < 16 := by omega
  have HD1 := Lib.hid hd1
  clear hd1
  obtain ⟨d2, hd2⟩ : ∃ d, d = k / 1048576 % 16 := ⟨_, rfl⟩
  have hD2 : bits .and .i32 (r / 1048576) 15 = (d2 : Int) := by
    have e := Lib.and15_shift (r) k hk hk31 1048576
    rw [hd2]; simpa using e
  have hL2 : d2 < 16 := by omega
  have hL2' : (d2 : Int) < 16 := by omega
  have HD2 := Lib.hid hd2
  clear hd2
  obtain ⟨d3, hd3⟩ : ∃ d, d = k / 65536 % 16 := ⟨_, rfl⟩
  have hD3 : bits .and .i32 (r / 65536) 15 = (d3 : Int) := by
    have e := Lib.and15_shift (r) k hk hk31 65536
    rw [hd3]; simpa using e
  have hL3 : d3 < 16 := by omega
  have hL3' : (d3 : Int) < 16 := by omega
  have HD3 := Lib.hid hd3
  clear hd3
  obtain ⟨d4, hd4⟩ : ∃ d, d = k / 4096 % 16 := ⟨_, rfl⟩
  have hD4 : bits .and .i32 (r / 4096) 15 = (d4 : Int) := by
    have e := Lib.and15_shift (r) k hk hk31 4096
    rw [hd4]; simpa using e
  have hL4 : d4 < 16 := by omega
  have hL4' : (d4 : Int) < 16 := by omega
  have HD4 := Lib.hid hd4
  clear hd4
  obtain ⟨d5, hd5⟩ : ∃ d, d = k / 256 % 16 := ⟨_, rfl⟩
  have hD5 : bits .and .i32 (r / 256) 15 = (d5 : Int) := by
    have e := Lib.and15_shift (r) k hk hk31 256
    rw [hd5]; simpa using e
  have hL5 : d5 < 16 := by omega
  have hL5' : (d5 : Int) < 16 := by omega
  have HD5 := Lib.hid hd5
  clear hd5
  obtain ⟨d6, hd6⟩ : ∃ d, d = k / 16 % 16 := ⟨_, rfl⟩
  have hD6 : bits .and .i32 (r / 16) 15 = (d6 : Int) := by
    have e := Lib.and15_shift (r) k hk hk31 16
    rw [hd6]; simpa using e
  have hL6 : d6 < 16 := by omega
  have hL6' : (d6 : Int) < 16 := by omega
  have HD6 := Lib.hid hd6
  clear hd6
  obtain ⟨d7, hd7⟩ : ∃ d, d = k / 1 % 16 := ⟨_, rfl⟩
  have hD7 : bits .and .i32 (r) 15 = (d7 : Int) := by
    have e := Lib.and15_shift (r) k hk hk31 1
    rw [hd7]; simpa using e
  have hL7 : d7 < 16 := by omega
  have hL7' : (d7 : Int) < 16 := by omega
  have HD7 := Lib.hid hd7
  clear hd7
  have Hk := Lib.hid hk
  clear hk hk31
  have q34 : (r == 34) = false := by simp; omega
  have q92 : (r == 92) = false := by simp; omega
  have b7 : (r == 7) = false := by simp; omega
  have b8 : (r == 8) = false := by simp; omega
  have b12 : (r == 12) = false := by simp; omega
  have b10 : (r == 10) = false := by simp; omega
  have b13 : (r == 13) = false := by simp; omega
  have b9 : (r == 9) = false := by simp; omega
  have b11 : (r == 11) = false := by simp; omega
  have b127 : (r == 127) = false := by simp; omega
  have b32 : decide (r < 32) = false := by simp; omega
  have b128 : decide (r < 128) = false := by simp; omega
  have cV : ∀ W : World, Calls Tryd.prog 78 #[.int .i32 r] W fun e w' => e = .returned (.bool true) ∧ w' = W := fun W => by
    rw [← hv]; exact Tryd.utf8_ValidRune r W
  have CV := Lib.hid cV
  clear cV hv
  go_enter Tryd.func68, Tryd.ntmps68
  go_big_wp2_with (first | (go_at_call 78; refine (CV.out _).mono ?_; rintro e w2 ⟨rfl, rfl⟩) | (at_builtin; first
      | (refine Lib.wpList_append_byte rfl _ _ 40 rfl B 5 i0 Tryd.underlying40 hi hz0 hz1 hz2 _ _ _ rfl W0 _ _ (by assumption) rfl (by first | omega | (simp only [Lib.size_two]; omega)) ?_; intro _ _ hb)
      | (refine Lib.wpList_append_text rfl _ _ 40 9 rfl B 5 i0 Tryd.underlying40 Tryd.underlying9 hi hz0 hz1 hz2 _ _ _ rfl W0 (by assumption) _ rfl (by first | omega | (simp only [Lib.size_two]; omega)) ?_; intro _ _ hb)))
  refine wp_loop_rounds 9 ?_
  rw [rounds_succ]
  go_big_wp2_with (at_builtin; first
      | (refine Lib.wpList_append_byte rfl _ _ 40 rfl B 5 i0 Tryd.underlying40 hi hz0 hz1 hz2 _ _ _ rfl W0 _ _ (by assumption) rfl (by first | omega | (simp only [Lib.size_two]; omega)) ?_; intro _ _ hb)
      | (refine Lib.wpList_append_text rfl _ _ 40 9 rfl B 5 i0 Tryd.underlying40 Tryd.underlying9 hi hz0 hz1 hz2 _ _ _ rfl W0 (by assumption) _ rfl (by first | omega | (simp only [Lib.size_two]; omega)) ?_; intro _ _ hb))
  rw [rounds_succ]
  go_big_wp2_with (at_builtin; first
      | (refine Lib.wpList_append_byte rfl _ _ 40 rfl B 5 i0 Tryd.underlying40 hi hz0 hz1 hz2 _ _ _ rfl W0 _ _ (by assumption) rfl (by first | omega | (simp only [Lib.size_two]; omega)) ?_; intro _ _ hb)
      | (refine Lib.wpList_append_text rfl _ _ 40 9 rfl B 5 i0 Tryd.underlying40 Tryd.underlying9 hi hz0 hz1 hz2 _ _ _ rfl W0 (by assumption) _ rfl (by first | omega | (simp only [Lib.size_two]; omega)) ?_; intro _ _ hb))
  rw [rounds_succ]
  go_big_wp2_with (at_builtin; first
      | (refine Lib.wpList_append_byte rfl _ _ 40 rfl B 5 i0 Tryd.underlying40 hi hz0 hz1 hz2 _ _ _ rfl W0 _ _ (by assumption) rfl (by first | omega | (simp only [Lib.size_two]; omega)) ?_; intro _ _ hb)
      | (refine Lib.wpList_append_text rfl _ _ 40 9 rfl B 5 i0 Tryd.underlying40 Tryd.underlying9 hi hz0 hz1 hz2 _ _ _ rfl W0 (by assumption) _ rfl (by first | omega | (simp only [Lib.size_two]; omega)) ?_; intro _ _ hb))
  rw [rounds_succ]
  go_big_wp2_with (at_builtin; first
      | (refine Lib.wpList_append_byte rfl _ _ 40 rfl B 5 i0 Tryd.underlying40 hi hz0 hz1 hz2 _ _ _ rfl W0 _ _ (by assumption) rfl (by first | omega | (simp only [Lib.size_two]; omega)) ?_; intro _ _ hb)
      | (refine Lib.wpList_append_text rfl _ _ 40 9 rfl B 5 i0 Tryd.underlying40 Tryd.underlying9 hi hz0 hz1 hz2 _ _ _ rfl W0 (by assumption) _ rfl (by first | omega | (simp only [Lib.size_two]; omega)) ?_; intro _ _ hb))
  rw [rounds_succ]
  go_big_wp2_with (at_builtin; first
      | (refine Lib.wpList_append_byte rfl _ _ 40 rfl B 5 i0 Tryd.underlying40 hi hz0 hz1 hz2 _ _ _ rfl W0 _ _ (by assumption) rfl (by first | omega | (simp only [Lib.size_two]; omega)) ?_; intro _ _ hb)
      | (refine Lib.wpList_append_text rfl _ _ 40 9 rfl B 5 i0 Tryd.underlying40 Tryd.underlying9 hi hz0 hz1 hz2 _ _ _ rfl W0 (by assumption) _ rfl (by first | omega | (simp only [Lib.size_two]; omega)) ?_; intro _ _ hb))
  rw [rounds_succ]
  go_big_wp2_with (at_builtin; first
      | (refine Lib.wpList_append_byte rfl _ _ 40 rfl B 5 i0 Tryd.underlying40 hi hz0 hz1 hz2 _ _ _ rfl W0 _ _ (by assumption) rfl (by first | omega | (simp only [Lib.size_two]; omega)) ?_; intro _ _ hb)
      | (refine Lib.wpList_append_text rfl _ _ 40 9 rfl B 5 i0 Tryd.underlying40 Tryd.underlying9 hi hz0 hz1 hz2 _ _ _ rfl W0 (by assumption) _ rfl (by first | omega | (simp only [Lib.size_two]; omega)) ?_; intro _ _ hb))
  rw [rounds_succ]
  go_big_wp2_with (at_builtin; first
      | (refine Lib.wpList_append_byte rfl _ _ 40 rfl B 5 i0 Tryd.underlying40 hi hz0 hz1 hz2 _ _ _ rfl W0 _ _ (by assumption) rfl (by first | omega | (simp only [Lib.size_two]; omega)) ?_; intro _ _ hb)
      | (refine Lib.wpList_append_text rfl _ _ 40 9 rfl B 5 i0 Tryd.underlying40 Tryd.underlying9 hi hz0 hz1 hz2 _ _ _ rfl W0 (by assumption) _ rfl (by first | omega | (simp only [Lib.size_two]; omega)) ?_; intro _ _ hb))
  rw [rounds_succ]
  go_big_wp2_with (at_builtin; first
      | (refine Lib.wpList_append_byte rfl _ _ 40 rfl B 5 i0 Tryd.underlying40 hi hz0 hz1 hz2 _ _ _ rfl W0 _ _ (by assumption) rfl (by first | omega | (simp only [Lib.size_two]; omega)) ?_; intro _ _ hb)
      | (refine Lib.wpList_append_text rfl _ _ 40 9 rfl B 5 i0 Tryd.underlying40 Tryd.underlying9 hi hz0 hz1 hz2 _ _ _ rfl W0 (by assumption) _ rfl (by first | omega | (simp only [Lib.size_two]; omega)) ?_; intro _ _ hb))
  rw [rounds_succ]
  go_big_wp2_with (at_builtin; first
      | (refine Lib.wpList_append_byte rfl _ _ 40 rfl B 5 i0 Tryd.underlying40 hi hz0 hz1 hz2 _ _ _ rfl W0 _ _ (by assumption) rfl (by first | omega | (simp only [Lib.size_two]; omega)) ?_; intro _ _ hb)
      | (refine Lib.wpList_append_text rfl _ _ 40 9 rfl B 5 i0 Tryd.underlying40 Tryd.underlying9 hi hz0 hz1 hz2 _ _ _ rfl W0 (by assumption) _ rfl (by first | omega | (simp only [Lib.size_two]; omega)) ?_; intro _ _ hb))
  go_ret
  refine ⟨_, rfl, ?_⟩
  rw [show r.toNat = k by rw [Hk.out]; simp]
  simpa [Lib.intCells, Lib.strCells, Lib.size_two, Lib.lowerhex_at, Lib.hexDigits, List.append_assoc, HD0.out, HD1.out, HD2.out, HD3.out, HD4.out, HD5.out, HD6.out, HD7.out] using hb

end Go.Proofs.YthjkpkkkjndjlaaDoor
