/- internal/strconv.ParseUint at a text of digits in a base from 2 to 36. -/
import Derived.Test.YtenepfefpoiddaaDoorForm
import Derived.Lib.Strings
import Derived.Lib.ConvBytes
import Derived.Lib.AtoiAllMem
import Derived.Lib.AtoiErrMem
import Derived.Lib.Hide
import Derived.Laws.Strings3
import Derived.Laws.Closers25
import Derived.Laws.Closers25b
namespace Go.Proofs.YtenepfefpoiddaaDoor
open Go.RowKit

theorem val_take_le (b : Nat) (hb : 1 ≤ b) (ds : List Nat) (k : Nat) : val b (ds.take k) ≤ val b ds := by
  conv => rhs; rw [← List.take_append_drop k ds, val_append]
  have : val b (ds.take k) * 1 ≤ val b (ds.take k) * b ^ (ds.drop k).length := Nat.mul_le_mul_left _ (Nat.pow_pos hb)
  omega
theorem val_take_succ (b : Nat) (ds : List Nat) (k : Nat) (hk : k < ds.length) : val b (ds.take (k + 1)) = val b (ds.take k) * b + ds[k] := by
  rw [List.take_succ_eq_append_getElem hk, val_snoc]

/-- How the reading of a number ends: the number, or out of range. -/
def numEnd (b : Nat) (ds : List Nat) : Lib.NumEnd Nat := if val b ds < 18446744073709551616 then .ok (val b ds) else .range

/-- One round: its arithmetic. -/
theorem cut_facts (b acc : Nat) (hb : 2 ≤ b) (hb2 : b ≤ 36) : ∃ C m : Int, 0 ≤ m ∧ m < 18446744073709551616 ∧ C = (18446744073709551615 / b + 1 : Nat) ∧ IntKind.u64.wrap ((acc : Int) * (b : Int)) = m ∧ (C ≤ (acc : Int) → 18446744073709551616 ≤ acc * b) ∧ ((acc : Int) < C → m = ((acc * b : Nat) : Int)) := by
  have h1 := Nat.div_add_mod 18446744073709551615 b
  have h2 : 18446744073709551615 % b < b := Nat.mod_lt _ (by omega)
  refine ⟨_, _, ?_, ?_, rfl, rfl, ?_, ?_⟩
  · rw [IntKind.wrap_u64]; omega
  · rw [IntKind.wrap_u64]; omega
  · intro hc
    have hc : 18446744073709551615 / b + 1 ≤ acc := by omega
    have h3 : (18446744073709551615 / b + 1) * b ≤ acc * b := Nat.mul_le_mul_right _ hc
    rw [Nat.add_mul, Nat.mul_comm _ b] at h3
    omega
  · intro hc
    have hc : acc ≤ 18446744073709551615 / b := by omega
    have h3 : acc * b ≤ 18446744073709551615 / b * b := Nat.mul_le_mul_right _ hc
    rw [Nat.mul_comm (_ / b) b] at h3
    rw [IntKind.wrap_u64, ← Int.natCast_mul]
    omega

theorem or32 : ∀ d : Fin 26, bits .or .u8 (((97 + d.val : Nat)) : Int) 32 = ((97 + d.val : Nat) : Int) := by decide +kernel
theorem or32' (d : Nat) (h1 : 10 ≤ d) (h2 : d < 36) : bits .or .u8 (87 + (d : Int)) 32 = 87 + (d : Int) := by
  have := or32 ⟨d - 10, by omega⟩
  rw [show ((97 + (d - 10) : Nat) : Int) = 87 + (d : Int) by omega] at this
  exact this

theorem digit_cell (d : Nat) (h : d < 36) : ∃ c : Int, ((dch d).toNat : Int) = c ∧ ((d < 10 ∧ c = 48 + (d : Int)) ∨ (10 ≤ d ∧ c = 87 + (d : Int) ∧ bits .or .u8 c 32 = c)) := by
  refine ⟨_, rfl, ?_⟩
  rw [dch_toNat h]
  by_cases h10 : d < 10
  · rw [if_pos h10]; left; exact ⟨h10, by omega⟩
  · rw [if_neg h10]; right
    have := or32' d (by omega) h
    exact ⟨by omega, by omega, by rw [show ((87 + d : Nat) : Int) = 87 + (d : Int) by omega]; exact this⟩

set_option maxHeartbeats 32000000 in
set_option maxRecDepth 100000 in
theorem iParseUint_gen (b : Nat) (ds : List Nat) (hb : 2 ≤ b) (hb2 : b ≤ 36) (h10 : ((b : Int) == 10) = false) (h16 : ((b : Int) == 16) = false) (hbd : ∀ d ∈ ds, d < b) (hne : ds ≠ []) (hlen : ds.length ≤ 9223372036854775806) (w : World) :
    Calls Tryd.prog 49 #[.string (bs (ds.map dch)), .int .i64 b, .int .i64 64] w fun e w' => e = .returned (Lib.uintTuple 73 (numEnd b ds)) ∧ Below w.heap.size w w' := by
  have hsz : (bs (ds.map dch)).size = ds.length := by rw [bs_size, List.length_map]
  obtain ⟨t, ht⟩ : ∃ t, t = bs (ds.map dch) := ⟨_, rfl⟩
  have hemp : t.toList.isEmpty = false := by
    rw [ht, bs_toList]; cases ds with | nil => exact absurd rfl hne | cons => rfl
  have hcv := Lib.run_convert_string_bytes (P := Tryd.prog) w 9 23 5 t (u := .string) Tryd.underlying9 Tryd.underlying23 Tryd.underlying5
  have hB0 : ∀ j, j < t.size → (Lib.bytesWorld w 5 t).cell? ⟨w.heap.size, j, none⟩ = some (.int .u8 (t.data.toList.getD j 0).toNat) := fun j hj => Lib.bytesWorld_cell w 5 t j hj
  have hb0 := Lib.bytesWorld_below w 5 t
  obtain ⟨W1, hW1⟩ : ∃ W1, W1 = Lib.bytesWorld w 5 t := ⟨_, rfl⟩
  rw [← hW1] at hcv hB0 hb0
  clear hW1
  rw [← ht] at hsz ⊢
  have hB : ∀ j (hj : j < ds.length), W1.cell? ⟨w.heap.size, j, none⟩ = some (.int .u8 ((dch (ds[j]'hj)).toNat : Int)) := by
    intro j hj
    rw [hB0 j (by omega), ht]
    simp [bs, List.getD, hj]
  clear hB0 ht
  have HB := Lib.hid hB
  have HW := Lib.hid hb0
  have HD := Lib.hid hbd
  clear hB hb0 hbd
  obtain ⟨C, hC⟩ : ∃ C : Int, C = ((18446744073709551615 / b + 1 : Nat) : Int) := ⟨_, rfl⟩
  have hq : 18446744073709551615 / (b : Int) = C - 1 := by
    rw [hC]
    have : (18446744073709551615 : Int) / (b : Int) = ((18446744073709551615 / b : Nat) : Int) := by rw [Int.natCast_ediv]; rfl
    omega
  have hC0 : 1 ≤ C ∧ C < 18446744073709551616 := by
    have h1 : 18446744073709551615 / b ≤ 18446744073709551615 / 2 := Nat.div_le_div_left hb (by omega)
    rw [hC]
    generalize 18446744073709551615 / b = q at h1
    omega
  obtain ⟨hC1, hC2⟩ := hC0
  have HC := Lib.hid hC
  clear hC
  have hmv : IntKind.u64.wrap (IntKind.u64.wrap 18446744073709551616 - 1) = 18446744073709551615 := by
    rw [IntKind.wrap_u64, IntKind.wrap_u64]
    decide
  have t2 : decide (2 ≤ (b : Int)) = true := by simp; omega
  have t36 : decide ((b : Int) ≤ 36) = true := by simp; omega
  have t0 : ((b : Int) == 0) = false := by simp; omega
  go_enter Tryd.func49, Tryd.ntmps49
  go_wp2
  rw [hq]
  clear hq
  go_loop [12, 13, 101] (fun vu vn vi => ∃ (k acc : Nat) (a : Int), vu = .bool false ∧ vn = .int .u64 a ∧ vi = .int .i64 k ∧ k ≤ ds.length ∧ Hid (a = (acc : Int) ∧ acc < 18446744073709551616 ∧ acc = val b (ds.take k)))
    (fun _ _ vi => ds.length - (intOf vi).toNat)
  case atStart => exact ⟨0, 0, 0, rfl, rfl, rfl, by omega, rfl, by omega, rfl⟩
  case round =>
    obtain ⟨k, acc, a, rfl, rfl, rfl, hk, hh⟩ := hrel
    obtain ⟨ha, hacc, hval⟩ := hh.out
    clear hh
    have a0 : 0 ≤ a := by omega
    have a1 : a < 18446744073709551616 := by omega
    by_cases hkn : k < ds.length
    · have hcell := HB.out k hkn
      have hdb := HD.out _ (List.getElem_mem hkn)
      have hnext := val_take_succ b ds k hkn
      have hle := val_take_le b (by omega) ds (k + 1)
      generalize ds[k] = d at hcell hdb hnext
      rw [← hval] at hnext
      rw [hnext] at hle
      obtain ⟨c, hc, hcase⟩ := digit_cell d (by omega)
      rw [hc] at hcell
      clear hc
      have c0 : 0 ≤ c := by omega
      have c1 : c < 256 := by omega
      obtain ⟨C', m, m0, m1, hC', hm, hcut1, hcut2⟩ := cut_facts b acc hb hb2
      rw [← HC.out] at hC'
      subst hC'
      rw [← ha] at hm hcut1 hcut2
      by_cases hcut : C' ≤ a
      · have hend : numEnd b ds = .range := by
          have := hcut1 hcut
          rw [numEnd, if_neg (by omega)]
        have HE := Lib.hid hend
        have t3 : decide (C' ≤ a) = true := by simpa using hcut
        clear hend hcut1 hcut2 hnext hle hval hacc ha
        rcases hcase with ⟨d10, hc⟩ | ⟨d10, hc, hlow⟩
        · have e1 : 48 ≤ c := by omega
          have e2 : c ≤ 57 := by omega
          have e3 : c - 48 < b := by omega
          clear hc d10 hdb
          go_wp2
          go_ret2
          exact ⟨by rw [HE.out]; rfl, HW.out⟩
        · have e1 : 97 ≤ c := by omega
          have e2 : c ≤ 122 := by omega
          have e3 : c - 97 + 10 < b := by omega
          clear hc d10 hdb
          go_wp2_with (go_at_call 60; refine (Tryd.internal_strconv_lower _ _).mono ?_; rintro e w' ⟨rfl, rfl⟩; rw [hlow])
          go_ret2
          exact ⟨by rw [HE.out]; rfl, HW.out⟩
      · have hma := hcut2 (by omega)
        have t3 : decide (C' ≤ a) = false := by simpa using hcut
        by_cases hov : 18446744073709551616 ≤ m + (d : Int)
        · have hend : numEnd b ds = .range := by
            rw [numEnd, if_neg (by omega)]
          have HE := Lib.hid hend
          clear hend hcut1 hcut2 hnext hle hval hacc ha hma hcut
          have hwr : IntKind.u64.wrap (m + (d : Int)) = m + (d : Int) - 18446744073709551616 := by
            rw [IntKind.wrap_u64]
            omega
          rcases hcase with ⟨d10, hc⟩ | ⟨d10, hc, hlow⟩
          · have e1 : 48 ≤ c := by omega
            have e2 : c ≤ 57 := by omega
            have e3 : c - 48 < b := by omega
            rw [show (d : Int) = c - 48 by omega] at hwr hov
            clear hc d10 hdb
            go_wp2
            go_ret2
            exact ⟨by rw [HE.out]; rfl, HW.out⟩
          · have e1 : 97 ≤ c := by omega
            have e2 : c ≤ 122 := by omega
            have e3 : c - 97 + 10 < b := by omega
            rw [show (d : Int) = c - 97 + 10 by omega] at hwr hov
            clear hc d10 hdb
            go_wp2_with (go_at_call 60; refine (Tryd.internal_strconv_lower _ _).mono ?_; rintro e w' ⟨rfl, rfl⟩; rw [hlow])
            go_ret2
            exact ⟨by rw [HE.out]; rfl, HW.out⟩
        · have HN : Hid (m + (d : Int) = ((acc * b + d : Nat) : Int) ∧ acc * b + d < 18446744073709551616 ∧ acc * b + d = val b (ds.take (k + 1))) := Lib.hid ⟨by omega, by omega, hnext.symm⟩
          have hov2 : m + (d : Int) < 18446744073709551616 := by omega
          clear hcut1 hcut2 hnext hle hval hacc ha hma hcut hov
          rcases hcase with ⟨d10, hc⟩ | ⟨d10, hc, hlow⟩
          · have e1 : 48 ≤ c := by omega
            have e2 : c ≤ 57 := by omega
            have e3 : c - 48 < b := by omega
            rw [show (d : Int) = c - 48 by omega] at HN hov2
            clear hc d10 hdb
            go_wp2
            go_round
            case rel => exact ⟨k + 1, acc * b + d, m + (c - 48), rfl, rfl, by first | rfl | (congr 1; omega), by omega, HN⟩
            case measure => simp [RowKit.intOf]; omega
          · have e1 : 97 ≤ c := by omega
            have e2 : c ≤ 122 := by omega
            have e3 : c - 97 + 10 < b := by omega
            rw [show (d : Int) = c - 97 + 10 by omega] at HN hov2
            clear hc d10 hdb
            go_wp2_with (go_at_call 60; refine (Tryd.internal_strconv_lower _ _).mono ?_; rintro e w' ⟨rfl, rfl⟩; rw [hlow])
            go_round
            case rel => exact ⟨k + 1, acc * b + d, m + (c - 97 + 10), rfl, rfl, by first | rfl | (congr 1; omega), by omega, HN⟩
            case measure => simp [RowKit.intOf]; omega
    · have hkk : k = ds.length := by omega
      subst hkk
      rw [List.take_length] at hval
      have hend : numEnd b ds = .ok acc := by rw [numEnd, if_pos (by omega), hval]
      have HE := Lib.hid hend
      subst ha
      clear hacc hend hval a0 a1
      go_wp2
      go_ret2
      exact ⟨by rw [HE.out]; rfl, HW.out⟩
set_option maxHeartbeats 32000000 in
set_option maxRecDepth 100000 in
theorem iParseUint_16 (b : Nat) (ds : List Nat) (hb : 2 ≤ b) (hb2 : b ≤ 36) (hb16 : b = 16) (hbd : ∀ d ∈ ds, d < b) (hne : ds ≠ []) (hlen : ds.length ≤ 9223372036854775806) (w : World) :
    Calls Tryd.prog 49 #[.string (bs (ds.map dch)), .int .i64 b, .int .i64 64] w fun e w' => e = .returned (Lib.uintTuple 73 (numEnd b ds)) ∧ Below w.heap.size w w' := by
  have hsz : (bs (ds.map dch)).size = ds.length := by rw [bs_size, List.length_map]
  obtain ⟨t, ht⟩ : ∃ t, t = bs (ds.map dch) := ⟨_, rfl⟩
  have hemp : t.toList.isEmpty = false := by
    rw [ht, bs_toList]; cases ds with | nil => exact absurd rfl hne | cons => rfl
  have hcv := Lib.run_convert_string_bytes (P := Tryd.prog) w 9 23 5 t (u := .string) Tryd.underlying9 Tryd.underlying23 Tryd.underlying5
  have hB0 : ∀ j, j < t.size → (Lib.bytesWorld w 5 t).cell? ⟨w.heap.size, j, none⟩ = some (.int .u8 (t.data.toList.getD j 0).toNat) := fun j hj => Lib.bytesWorld_cell w 5 t j hj
  have hb0 := Lib.bytesWorld_below w 5 t
  obtain ⟨W1, hW1⟩ : ∃ W1, W1 = Lib.bytesWorld w 5 t := ⟨_, rfl⟩
  rw [← hW1] at hcv hB0 hb0
  clear hW1
  rw [← ht] at hsz ⊢
  have hB : ∀ j (hj : j < ds.length), W1.cell? ⟨w.heap.size, j, none⟩ = some (.int .u8 ((dch (ds[j]'hj)).toNat : Int)) := by
    intro j hj
    rw [hB0 j (by omega), ht]
    simp [bs, List.getD, hj]
  clear hB0 ht
  have HB := Lib.hid hB
  have HW := Lib.hid hb0
  have HD := Lib.hid hbd
  clear hB hb0 hbd
  obtain ⟨C, hC⟩ : ∃ C : Int, C = ((18446744073709551615 / b + 1 : Nat) : Int) := ⟨_, rfl⟩
  have hq : 1152921504606846976 = C := by rw [hC, hb16]; rfl
  have h10 : ((b : Int) == 10) = false := by rw [hb16]; rfl
  have h16 : ((b : Int) == 16) = true := by rw [hb16]; rfl
  clear hb16
  have hC0 : 1 ≤ C ∧ C < 18446744073709551616 := by
    have h1 : 18446744073709551615 / b ≤ 18446744073709551615 / 2 := Nat.div_le_div_left hb (by omega)
    rw [hC]
    generalize 18446744073709551615 / b = q at h1
    omega
  obtain ⟨hC1, hC2⟩ := hC0
  have HC := Lib.hid hC
  clear hC
  have HQ := Lib.hid hq
  clear hq
  have hmv : IntKind.u64.wrap (IntKind.u64.wrap 18446744073709551616 - 1) = 18446744073709551615 := by
    rw [IntKind.wrap_u64, IntKind.wrap_u64]
    decide
  have t2 : decide (2 ≤ (b : Int)) = true := by simp; omega
  have t36 : decide ((b : Int) ≤ 36) = true := by simp; omega
  have t0 : ((b : Int) == 0) = false := by simp; omega
  go_enter Tryd.func49, Tryd.ntmps49
  go_wp2
  rw [HQ.out]
  clear HQ
  go_loop [12, 13, 101] (fun vu vn vi => ∃ (k acc : Nat) (a : Int), vu = .bool false ∧ vn = .int .u64 a ∧ vi = .int .i64 k ∧ k ≤ ds.length ∧ Hid (a = (acc : Int) ∧ acc < 18446744073709551616 ∧ acc = val b (ds.take k)))
    (fun _ _ vi => ds.length - (intOf vi).toNat)
  case atStart => exact ⟨0, 0, 0, rfl, rfl, rfl, by omega, rfl, by omega, rfl⟩
  case round =>
    obtain ⟨k, acc, a, rfl, rfl, rfl, hk, hh⟩ := hrel
    obtain ⟨ha, hacc, hval⟩ := hh.out
    clear hh
    have a0 : 0 ≤ a := by omega
    have a1 : a < 18446744073709551616 := by omega
    by_cases hkn : k < ds.length
    · have hcell := HB.out k hkn
      have hdb := HD.out _ (List.getElem_mem hkn)
      have hnext := val_take_succ b ds k hkn
      have hle := val_take_le b (by omega) ds (k + 1)
      generalize ds[k] = d at hcell hdb hnext
      rw [← hval] at hnext
      rw [hnext] at hle
      obtain ⟨c, hc, hcase⟩ := digit_cell d (by omega)
      rw [hc] at hcell
      clear hc
      have c0 : 0 ≤ c := by omega
      have c1 : c < 256 := by omega
      obtain ⟨C', m, m0, m1, hC', hm, hcut1, hcut2⟩ := cut_facts b acc hb hb2
      rw [← HC.out] at hC'
      subst hC'
      rw [← ha] at hm hcut1 hcut2
      by_cases hcut : C' ≤ a
      · have hend : numEnd b ds = .range := by
          have := hcut1 hcut
          rw [numEnd, if_neg (by omega)]
        have HE := Lib.hid hend
        have t3 : decide (C' ≤ a) = true := by simpa using hcut
        clear hend hcut1 hcut2 hnext hle hval hacc ha
        rcases hcase with ⟨d10, hc⟩ | ⟨d10, hc, hlow⟩
        · have e1 : 48 ≤ c := by omega
          have e2 : c ≤ 57 := by omega
          have e3 : c - 48 < b := by omega
          clear hc d10 hdb
          go_wp2
          go_ret2
          exact ⟨by rw [HE.out]; rfl, HW.out⟩
        · have e1 : 97 ≤ c := by omega
          have e2 : c ≤ 122 := by omega
          have e3 : c - 97 + 10 < b := by omega
          clear hc d10 hdb
          go_wp2_with (go_at_call 60; refine (Tryd.internal_strconv_lower _ _).mono ?_; rintro e w' ⟨rfl, rfl⟩; rw [hlow])
          go_ret2
          exact ⟨by rw [HE.out]; rfl, HW.out⟩
      · have hma := hcut2 (by omega)
        have t3 : decide (C' ≤ a) = false := by simpa using hcut
        by_cases hov : 18446744073709551616 ≤ m + (d : Int)
        · have hend : numEnd b ds = .range := by
            rw [numEnd, if_neg (by omega)]
          have HE := Lib.hid hend
          clear hend hcut1 hcut2 hnext hle hval hacc ha hma hcut
          have hwr : IntKind.u64.wrap (m + (d : Int)) = m + (d : Int) - 18446744073709551616 := by
            rw [IntKind.wrap_u64]
            omega
          rcases hcase with ⟨d10, hc⟩ | ⟨d10, hc, hlow⟩
          · have e1 : 48 ≤ c := by omega
            have e2 : c ≤ 57 := by omega
            have e3 : c - 48 < b := by omega
            rw [show (d : Int) = c - 48 by omega] at hwr hov
            clear hc d10 hdb
            go_wp2
            go_ret2
            exact ⟨by rw [HE.out]; rfl, HW.out⟩
          · have e1 : 97 ≤ c := by omega
            have e2 : c ≤ 122 := by omega
            have e3 : c - 97 + 10 < b := by omega
            rw [show (d : Int) = c - 97 + 10 by omega] at hwr hov
            clear hc d10 hdb
            go_wp2_with (go_at_call 60; refine (Tryd.internal_strconv_lower _ _).mono ?_; rintro e w' ⟨rfl, rfl⟩; rw [hlow])
            go_ret2
            exact ⟨by rw [HE.out]; rfl, HW.out⟩
        · have HN : Hid (m + (d : Int) = ((acc * b + d : Nat) : Int) ∧ acc * b + d < 18446744073709551616 ∧ acc * b + d = val b (ds.take (k + 1))) := Lib.hid ⟨by omega, by omega, hnext.symm⟩
          have hov2 : m + (d : Int) < 18446744073709551616 := by omega
          clear hcut1 hcut2 hnext hle hval hacc ha hma hcut hov
          rcases hcase with ⟨d10, hc⟩ | ⟨d10, hc, hlow⟩
          · have e1 : 48 ≤ c := by omega
            have e2 : c ≤ 57 := by omega
            have e3 : c - 48 < b := by omega
            rw [show (d : Int) = c - 48 by omega] at HN hov2
            clear hc d10 hdb
            go_wp2
            go_round
            case rel => exact ⟨k + 1, acc * b + d, m + (c - 48), rfl, rfl, by first | rfl | (congr 1; omega), by omega, HN⟩
            case measure => simp [RowKit.intOf]; omega
          · have e1 : 97 ≤ c := by omega
            have e2 : c ≤ 122 := by omega
            have e3 : c - 97 + 10 < b := by omega
            rw [show (d : Int) = c - 97 + 10 by omega] at HN hov2
            clear hc d10 hdb
            go_wp2_with (go_at_call 60; refine (Tryd.internal_strconv_lower _ _).mono ?_; rintro e w' ⟨rfl, rfl⟩; rw [hlow])
            go_round
            case rel => exact ⟨k + 1, acc * b + d, m + (c - 97 + 10), rfl, rfl, by first | rfl | (congr 1; omega), by omega, HN⟩
            case measure => simp [RowKit.intOf]; omega
    · have hkk : k = ds.length := by omega
      subst hkk
      rw [List.take_length] at hval
      have hend : numEnd b ds = .ok acc := by rw [numEnd, if_pos (by omega), hval]
      have HE := Lib.hid hend
      subst ha
      clear hacc hend hval a0 a1
      go_wp2
      go_ret2
      exact ⟨by rw [HE.out]; rfl, HW.out⟩

theorem parse10 (ds : List Nat) : ∀ acc, acc < 18446744073709551616 → (∀ d ∈ ds, d < 10) → Lib.parseUint10 acc (ds.map dch) = if acc * 10 ^ ds.length + val 10 ds < 18446744073709551616 then .ok (acc * 10 ^ ds.length + val 10 ds) else .range := by
  induction ds with
  | nil => intro acc h _; simp [Lib.parseUint10, val, h]
  | cons d r ih =>
    intro acc h hd
    have h1 : d < 10 := hd d (by simp)
    have e : (dch d).toNat = 48 + d := by rw [dch_toNat (by omega), if_pos h1]
    have e3 : acc * 10 ^ (d :: r).length + val 10 (d :: r) = (acc * 10 + d) * 10 ^ r.length + val 10 r := by
      rw [val_cons, List.length_cons, Nat.pow_succ, Nat.add_mul, Nat.mul_comm (10 ^ r.length) 10, ← Nat.mul_assoc]
      omega
    rw [e3, List.map_cons, Lib.parseUint10, if_pos (by omega), e]
    have p : (acc * 10 + d) * 1 ≤ (acc * 10 + d) * 10 ^ r.length := Nat.mul_le_mul_left _ (Nat.pow_pos (by decide))
    split
    · rw [if_neg (by omega)]
    · split
      · rw [if_neg (by omega)]
      · rw [show 48 + d - 48 = d by omega, ih (acc * 10 + d) (by omega) (fun x hx => hd x (by simp [hx]))]

theorem iParseUint_10 (ds : List Nat) (hbd : ∀ d ∈ ds, d < 10) (hne : ds ≠ []) (hlen : ds.length ≤ 9223372036854775806) (w : World) :
    Calls Tryd.prog 49 #[.string (bs (ds.map dch)), .int .i64 10, .int .i64 64] w fun e w' => e = .returned (Lib.uintTuple 73 (numEnd 10 ds)) ∧ Below w.heap.size w w' := by
  have hsz : (bs (ds.map dch)).size = ds.length := by rw [bs_size, List.length_map]
  have hpos : ds.length ≠ 0 := fun h => hne (List.eq_nil_of_length_eq_zero h)
  refine (Tryd.internal_strconv_ParseUint_10_b64 (bs (ds.map dch)) (by omega) (by omega) w).mono ?_
  rintro e w' ⟨rfl, rfl⟩
  refine ⟨?_, Lib.bytesWorld_below _ _ _⟩
  have : (bs (ds.map dch)).data.toList = ds.map dch := by simp [bs]
  rw [this, parse10 ds 0 (by omega) hbd, Nat.zero_mul, Nat.zero_add]
  rfl

/-- internal/strconv.ParseUint at a text of digits, in every base. -/
theorem iParseUint (b : Nat) (ds : List Nat) (hb : 2 ≤ b) (hb2 : b ≤ 36) (hbd : ∀ d ∈ ds, d < b) (hne : ds ≠ []) (hlen : ds.length ≤ 9223372036854775806) (w : World) :
    Calls Tryd.prog 49 #[.string (bs (ds.map dch)), .int .i64 b, .int .i64 64] w fun e w' => e = .returned (Lib.uintTuple 73 (numEnd b ds)) ∧ Below w.heap.size w w' := by
  by_cases h10 : b = 10
  · subst h10; exact iParseUint_10 ds hbd hne hlen w
  · by_cases h16 : b = 16
    · exact iParseUint_16 b ds hb hb2 h16 hbd hne hlen w
    · exact iParseUint_gen b ds hb hb2 (by simp; omega) (by simp; omega) hbd hne hlen w
end Go.Proofs.YtenepfefpoiddaaDoor
