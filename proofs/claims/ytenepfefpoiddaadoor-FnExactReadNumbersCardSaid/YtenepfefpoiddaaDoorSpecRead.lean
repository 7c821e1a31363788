/- The reference's read and ReadNumbers. (Printed by read.py.) -/
import Derived.Test.YtenepfefpoiddaaDoorRead
import Derived.Lib.ParseIntBTie
namespace Go.Proofs.YtenepfefpoiddaaDoor
open Go.RowKit

/-- What is read behind the sign. -/
def outOf (minus : Bool) (e : Lib.NumEnd Nat) : Int × Int := match e with
  | .ok u => if minus then (if 9223372036854775808 < u then (-9223372036854775808, 2) else (-(u : Int), 0)) else (if 9223372036854775808 ≤ u then (9223372036854775807, 2) else ((u : Int), 0))
  | .range => (if minus then -9223372036854775808 else 9223372036854775807, 2)
  | _ => (0, 1)
theorem readOut_nil : readOut [] = (0, 1) := rfl
theorem readOut_minus (r : List UInt8) : readOut (45 :: r) = outOf true (Lib.parseMag r) := by
  rw [readOut, Lib.parseIntB_64, Lib.intSat_64, Lib.atoiAll_minus, Lib.atoiSat_minus]
  cases Lib.parseMag r
  · rename_i u
    by_cases h : 9223372036854775808 < u
    · simp only [Lib.signed, outOf, if_true, if_pos h]
    · simp only [Lib.signed, outOf, if_true, if_neg h]
  · rfl
  · rfl
theorem readOut_plus (r : List UInt8) : readOut (43 :: r) = outOf false (Lib.parseMag r) := by
  rw [readOut, Lib.parseIntB_64, Lib.intSat_64, Lib.atoiAll_plus, Lib.atoiSat_other 43 r (by decide)]
  cases Lib.parseMag r
  · rename_i u
    by_cases h : 9223372036854775808 ≤ u
    · simp only [Lib.signless, outOf, if_false, Bool.false_eq_true, if_pos h]
    · simp only [Lib.signless, outOf, if_false, Bool.false_eq_true, if_neg h]
  · rfl
  · rfl
theorem readOut_plain (c : UInt8) (r : List UInt8) (h43 : c.toNat ≠ 43) (h45 : c.toNat ≠ 45) : readOut (c :: r) = outOf false (Lib.parseMag (c :: r)) := by
  rw [readOut, Lib.parseIntB_64, Lib.intSat_64, Lib.atoiAll_plain c r h43 h45, Lib.atoiSat_other c r h45]
  cases Lib.parseMag (c :: r)
  · rename_i u
    by_cases h : 9223372036854775808 ≤ u
    · simp only [Lib.signless, outOf, if_false, Bool.false_eq_true, if_pos h]
    · simp only [Lib.signless, outOf, if_false, Bool.false_eq_true, if_neg h]
  · rfl
  · rfl

/-- One more digit: the reference's test for what does not fit is the same. -/
theorem parse_digit (acc : Nat) (c : UInt8) (r : List UInt8) (h0 : 48 ≤ c.toNat) (h9 : c.toNat ≤ 57) (ha : acc < 18446744073709551616) :
    Lib.parseUint10 acc (c :: r) = if (18446744073709551615 - (c.toNat - 48)) / 10 < acc then .range else Lib.parseUint10 (acc * 10 + (c.toNat - 48)) r := by
  rw [Lib.parseUint10, if_pos ⟨h0, h9⟩]
  have hd : (18446744073709551615 - (c.toNat - 48)) / 10 < acc ↔ 18446744073709551615 - (c.toNat - 48) < acc * 10 := Nat.div_lt_iff_lt_mul (by decide)
  split
  · rw [if_pos (hd.2 (by omega))]
  · split
    · rw [if_pos (hd.2 (by omega))]
    · rw [if_neg (fun h => by have := hd.1 h; omega)]
theorem no_digit (acc : Nat) (c : UInt8) (r : List UInt8) (M : Bool) (h : ¬ (48 ≤ c.toNat ∧ c.toNat ≤ 57)) : outOf M (Lib.parseUint10 acc (c :: r)) = (0, 1) := by
  rw [Lib.parseUint10, if_neg h]; rfl
theorem get_drop {R : ByteArray} {RL : List UInt8} (h : R = bs RL) (i : Nat) (hi : i < R.size) : ∃ cb : UInt8, (R[i]'hi).toNat = cb.toNat ∧ RL.drop i = cb :: RL.drop (i + 1) := by
  subst h
  have hi' : i < RL.length := by rw [bs_size] at hi; exact hi
  exact ⟨RL[i], by rw [bs_get], List.drop_eq_getElem_cons hi'⟩

theorem nearest_true (w : World) : Calls Tryd.prog 54 #[.bool true] w fun e w' => e = .returned (.int .i64 (-9223372036854775808)) ∧ w = w' := by
  go_enter Tryd.func54, Tryd.ntmps54
  go_wp2
  go_ret
  exact ⟨rfl, rfl⟩
theorem nearest_false (w : World) : Calls Tryd.prog 54 #[.bool false] w fun e w' => e = .returned (.int .i64 9223372036854775807) ∧ w = w' := by
  go_enter Tryd.func54, Tryd.ntmps54
  go_wp2
  go_ret
  exact ⟨rfl, rfl⟩

set_option maxHeartbeats 2000000 in
set_option maxRecDepth 100000 in
theorem read_plain (R : ByteArray) (RL : List UInt8) (n : Nat) (hRL : R = bs RL) (hn : R.size = n) (hp : 0 < n) (lim : n ≤ 1099511627776) (S : ByteArray) (hS : S = R) (hne43 : ∀ h : 0 < R.size, (R[0]'h).toNat ≠ 43) (hne45 : ∀ h : 0 < R.size, (R[0]'h).toNat ≠ 45) (w : World) :
    Calls Tryd.prog 44 #[.string S] w fun e w' => e = .returned (.tuple #[.int .i64 (outOf false (Lib.parseUint10 0 RL)).1, .int .i64 (outOf false (Lib.parseUint10 0 RL)).2]) ∧ Below w.heap.size w w' := by
  have HG : Hid (∀ i (h : i < R.size), ∃ cb : UInt8, (R[i]'h).toNat = cb.toNat ∧ RL.drop i = cb :: RL.drop (i + 1)) := Lib.hid (get_drop hRL)
  have HL : Hid (RL.length = n) := Lib.hid (by rw [← hn, hRL, bs_size])
  clear hRL
  subst hS
  have h43 := hne43 (by omega)
  have h45 := hne45 (by omega)
  obtain ⟨c0, hc0⟩ : ∃ c : Nat, (S[0]'(by omega)).toNat = c := ⟨_, rfl⟩
  rw [hc0] at h43 h45
  clear hne43 hne45
  have q43 : ((c0 : Int) == 43) = false := by simp; omega
  have q45 : ((c0 : Int) == 45) = false := by simp; omega
  have gn0 : ((n : Int) == 0) = false := by simp; omega
  go_enter Tryd.func44, Tryd.ntmps44
  go_wp2
  go_loop [5, 6, 7] (fun vn vi _ => ∃ i acc : Nat, i ≤ n ∧ vi = .int .i64 i ∧ vn = .int .u64 acc ∧ acc < 18446744073709551616 ∧ Hid (Lib.parseUint10 0 RL = Lib.parseUint10 acc (RL.drop i))) (fun _ vi _ => n - (intOf vi).toNat)
  case atStart => exact ⟨0, 0, by omega, rfl, rfl, by omega, rfl⟩
  case round =>
    obtain ⟨i, acc, hi, rfl, rfl, ha, HP⟩ := hrel
    by_cases hlt : i < n
    · have his : i < S.size := by omega
      obtain ⟨cb, hcb, hdr⟩ := HG.out i his
      have hP := HP.out
      rw [hdr] at hP
      have hcl : cb.toNat < 256 := cb.toNat_lt
      by_cases hdig : 48 ≤ cb.toNat ∧ cb.toNat ≤ 57
      · rw [parse_digit acc cb _ hdig.1 hdig.2 ha] at hP
        obtain ⟨c, hc⟩ : ∃ c : Nat, cb.toNat = c := ⟨_, rfl⟩
        rw [hc] at hcb hdig hP hcl
        obtain ⟨d, hd⟩ : ∃ d : Nat, c = d + 48 := ⟨c - 48, by omega⟩
        subst hd
        rw [show d + 48 - 48 = d by omega] at hP
        have hq2 : (18446744073709551615 - d) / 10 < acc ↔ 18446744073709551615 < acc * 10 + d := by
          rw [Nat.div_lt_iff_lt_mul (by decide)]; omega
        obtain ⟨q, hq⟩ : ∃ q, q = (18446744073709551615 - d) / 10 := ⟨_, rfl⟩
        rw [← hq] at hP hq2
        have hqi : (18446744073709551615 - (d : Int)) / 10 = (q : Int) := by omega
        clear hq
        have d9 : d ≤ 9 := by omega
        by_cases hover : q < acc
        · rw [if_pos hover] at hP
          have HE := Lib.hid hP
          have g1 : decide ((q : Int) < (acc : Int)) = true := by simpa using hover
          have g1' : decide (q < acc) = true := by simpa using hover
          clear hP HP hdr hdig hq2 hover
          go_wp2_with (go_at_call 54; refine (nearest_false _).mono ?_; rintro e w' ⟨rfl, rfl⟩)
          go_ret2
          exact ⟨by rw [HE.out]; rfl, Below.refl _ _⟩
        · rw [if_neg hover] at hP
          have HE := Lib.hid hP
          have g1 : decide ((q : Int) < (acc : Int)) = false := by simpa using hover
          have g1' : decide (q < acc) = false := by simpa using hover
          have hb : acc * 10 + d < 18446744073709551616 := by omega
          have ew : 10 * (acc : Int) + (d : Int) = ((acc * 10 + d : Nat) : Int) := by omega
          have EW := Lib.hid ew
          clear hP HP hdr hdig hq2 hover ew
          go_wp2
          go_round
          case rel => exact ⟨i + 1, acc * 10 + d, by omega, by go_num, by first | rfl | (rw [← EW.out]) | go_num, hb, HE.out⟩
          case measure => simp [intOf]; omega
      · have hout := no_digit acc cb (RL.drop (i + 1)) false hdig
        rw [← hP] at hout
        have HE := Lib.hid hout
        obtain ⟨c, hc⟩ : ∃ c : Nat, cb.toNat = c := ⟨_, rfl⟩
        rw [hc] at hcb hdig hcl
        clear hP HP hdr hout
        by_cases h48 : c < 48
        · have g1 : decide ((c : Int) < 48) = true := by simp; omega
          have g1' : decide (c < 48) = true := by simp; omega
          go_wp2
          go_ret2
          exact ⟨by rw [HE.out]; rfl, Below.refl _ _⟩
        · have h57 : 57 < c := by omega
          have g1 : decide ((c : Int) < 48) = false := by simp; omega
          have g2 : decide (57 < (c : Int)) = true := by simp; omega
          go_wp2
          go_ret2
          exact ⟨by rw [HE.out]; rfl, Below.refl _ _⟩
    · obtain rfl : i = n := by omega
      have hP := HP.out
      rw [List.drop_eq_nil_of_le (by rw [HL.out]; omega), Lib.parseUint10] at hP
      have HE := Lib.hid hP
      clear hP HP
      by_cases hbig : 9223372036854775808 ≤ acc
      · have g1 : decide (9223372036854775807 < (acc : Int)) = true := by simp; omega
        go_wp2_with (go_at_call 54; refine (nearest_false _).mono ?_; rintro e w' ⟨rfl, rfl⟩)
        go_ret2
        exact ⟨by rw [HE.out, outOf, if_neg (by decide), if_pos hbig]; rfl, Below.refl _ _⟩
      · have g1 : decide (9223372036854775807 < (acc : Int)) = false := by simp; omega
        go_wp2
        go_ret2
        exact ⟨by rw [HE.out, outOf, if_neg (by decide), if_neg hbig]; rfl, Below.refl _ _⟩

set_option maxHeartbeats 2000000 in
set_option maxRecDepth 100000 in
theorem read_minus (R : ByteArray) (RL : List UInt8) (n : Nat) (hRL : R = bs RL) (hn : R.size = n) (hp : 0 < n) (lim : n ≤ 1099511627776) (S : ByteArray) (m : Nat) (hm : S.size = m) (hm1 : m = n + 1) (h0 : ∀ h : 0 < S.size, (S[0]'h).toNat = 45) (hR : S.extract 1 m = R) (w : World) :
    Calls Tryd.prog 44 #[.string S] w fun e w' => e = .returned (.tuple #[.int .i64 (outOf true (Lib.parseUint10 0 RL)).1, .int .i64 (outOf true (Lib.parseUint10 0 RL)).2]) ∧ Below w.heap.size w w' := by
  have HG : Hid (∀ i (h : i < R.size), ∃ cb : UInt8, (R[i]'h).toNat = cb.toNat ∧ RL.drop i = cb :: RL.drop (i + 1)) := Lib.hid (get_drop hRL)
  have HL : Hid (RL.length = n) := Lib.hid (by rw [← hn, hRL, bs_size])
  clear hRL
  have hc0 := h0 (by omega)
  clear h0
  subst hm1
  have gn0 : ((n : Int) == 0) = false := by simp; omega
  go_enter Tryd.func44, Tryd.ntmps44
  go_wp2
  go_loop [5, 6, 7] (fun vn vi _ => ∃ i acc : Nat, i ≤ n ∧ vi = .int .i64 i ∧ vn = .int .u64 acc ∧ acc < 18446744073709551616 ∧ Hid (Lib.parseUint10 0 RL = Lib.parseUint10 acc (RL.drop i))) (fun _ vi _ => n - (intOf vi).toNat)
  case atStart => exact ⟨0, 0, by omega, rfl, rfl, by omega, rfl⟩
  case round =>
    obtain ⟨i, acc, hi, rfl, rfl, ha, HP⟩ := hrel
    by_cases hlt : i < n
    · have his : i < R.size := by omega
      obtain ⟨cb, hcb, hdr⟩ := HG.out i his
      have hP := HP.out
      rw [hdr] at hP
      have hcl : cb.toNat < 256 := cb.toNat_lt
      by_cases hdig : 48 ≤ cb.toNat ∧ cb.toNat ≤ 57
      · rw [parse_digit acc cb _ hdig.1 hdig.2 ha] at hP
        obtain ⟨c, hc⟩ : ∃ c : Nat, cb.toNat = c := ⟨_, rfl⟩
        rw [hc] at hcb hdig hP hcl
        obtain ⟨d, hd⟩ : ∃ d : Nat, c = d + 48 := ⟨c - 48, by omega⟩
        subst hd
        rw [show d + 48 - 48 = d by omega] at hP
        have hq2 : (18446744073709551615 - d) / 10 < acc ↔ 18446744073709551615 < acc * 10 + d := by
          rw [Nat.div_lt_iff_lt_mul (by decide)]; omega
        obtain ⟨q, hq⟩ : ∃ q, q = (18446744073709551615 - d) / 10 := ⟨_, rfl⟩
        rw [← hq] at hP hq2
        have hqi : (18446744073709551615 - (d : Int)) / 10 = (q : Int) := by omega
        clear hq
        have d9 : d ≤ 9 := by omega
        by_cases hover : q < acc
        · rw [if_pos hover] at hP
          have HE := Lib.hid hP
          have g1 : decide ((q : Int) < (acc : Int)) = true := by simpa using hover
          have g1' : decide (q < acc) = true := by simpa using hover
          clear hP HP hdr hdig hq2 hover
          go_wp2_with (go_at_call 54; refine (nearest_true _).mono ?_; rintro e w' ⟨rfl, rfl⟩)
          go_ret2
          exact ⟨by rw [HE.out]; rfl, Below.refl _ _⟩
        · rw [if_neg hover] at hP
          have HE := Lib.hid hP
          have g1 : decide ((q : Int) < (acc : Int)) = false := by simpa using hover
          have g1' : decide (q < acc) = false := by simpa using hover
          have hb : acc * 10 + d < 18446744073709551616 := by omega
          have ew : 10 * (acc : Int) + (d : Int) = ((acc * 10 + d : Nat) : Int) := by omega
          have EW := Lib.hid ew
          clear hP HP hdr hdig hq2 hover ew
          go_wp2
          go_round
          case rel => exact ⟨i + 1, acc * 10 + d, by omega, by go_num, by first | rfl | (rw [← EW.out]) | go_num, hb, HE.out⟩
          case measure => simp [intOf]; omega
      · have hout := no_digit acc cb (RL.drop (i + 1)) true hdig
        rw [← hP] at hout
        have HE := Lib.hid hout
        obtain ⟨c, hc⟩ : ∃ c : Nat, cb.toNat = c := ⟨_, rfl⟩
        rw [hc] at hcb hdig hcl
        clear hP HP hdr hout
        by_cases h48 : c < 48
        · have g1 : decide ((c : Int) < 48) = true := by simp; omega
          have g1' : decide (c < 48) = true := by simp; omega
          go_wp2
          go_ret2
          exact ⟨by rw [HE.out]; rfl, Below.refl _ _⟩
        · have h57 : 57 < c := by omega
          have g1 : decide ((c : Int) < 48) = false := by simp; omega
          have g2 : decide (57 < (c : Int)) = true := by simp; omega
          go_wp2
          go_ret2
          exact ⟨by rw [HE.out]; rfl, Below.refl _ _⟩
    · obtain rfl : i = n := by omega
      have hP := HP.out
      rw [List.drop_eq_nil_of_le (by rw [HL.out]; omega), Lib.parseUint10] at hP
      have HE := Lib.hid hP
      clear hP HP
      by_cases hbig : 9223372036854775808 < acc
      · have g1 : decide (9223372036854775808 < (acc : Int)) = true := by simp; omega
        go_wp2_with (go_at_call 54; refine (nearest_true _).mono ?_; rintro e w' ⟨rfl, rfl⟩)
        go_ret2
        exact ⟨by rw [HE.out, outOf, if_pos rfl, if_pos hbig]; rfl, Below.refl _ _⟩
      · have g1 : decide (9223372036854775808 < (acc : Int)) = false := by simp; omega
        by_cases hz : acc = 0
        · subst hz
          go_wp2
          go_ret2
          exact ⟨by rw [HE.out, outOf, if_pos rfl, if_neg hbig]; rfl, Below.refl _ _⟩
        · have g2 : decide ((0 : Int) < (acc : Int)) = true := by simp; omega
          have g2' : decide (0 < acc) = true := by simp; omega
          go_wp2
          go_ret2
          refine ⟨?_, Below.refl _ _⟩
          rw [HE.out, outOf, if_pos rfl, if_neg hbig]
          have e9 : -((acc : Int) - 1) - 1 = -(acc : Int) := by omega
          first | (rw [← e9]; rfl) | (simp only [← e9]; rfl)

set_option maxHeartbeats 2000000 in
set_option maxRecDepth 100000 in
theorem read_plus (R : ByteArray) (RL : List UInt8) (n : Nat) (hRL : R = bs RL) (hn : R.size = n) (hp : 0 < n) (lim : n ≤ 1099511627776) (S : ByteArray) (m : Nat) (hm : S.size = m) (hm1 : m = n + 1) (h0 : ∀ h : 0 < S.size, (S[0]'h).toNat = 43) (hR : S.extract 1 m = R) (w : World) :
    Calls Tryd.prog 44 #[.string S] w fun e w' => e = .returned (.tuple #[.int .i64 (outOf false (Lib.parseUint10 0 RL)).1, .int .i64 (outOf false (Lib.parseUint10 0 RL)).2]) ∧ Below w.heap.size w w' := by
  have HG : Hid (∀ i (h : i < R.size), ∃ cb : UInt8, (R[i]'h).toNat = cb.toNat ∧ RL.drop i = cb :: RL.drop (i + 1)) := Lib.hid (get_drop hRL)
  have HL : Hid (RL.length = n) := Lib.hid (by rw [← hn, hRL, bs_size])
  clear hRL
  have hc0 := h0 (by omega)
  clear h0
  subst hm1
  have gn0 : ((n : Int) == 0) = false := by simp; omega
  go_enter Tryd.func44, Tryd.ntmps44
  go_wp2
  go_loop [5, 6, 7] (fun vn vi _ => ∃ i acc : Nat, i ≤ n ∧ vi = .int .i64 i ∧ vn = .int .u64 acc ∧ acc < 18446744073709551616 ∧ Hid (Lib.parseUint10 0 RL = Lib.parseUint10 acc (RL.drop i))) (fun _ vi _ => n - (intOf vi).toNat)
  case atStart => exact ⟨0, 0, by omega, rfl, rfl, by omega, rfl⟩
  case round =>
    obtain ⟨i, acc, hi, rfl, rfl, ha, HP⟩ := hrel
    by_cases hlt : i < n
    · have his : i < R.size := by omega
      obtain ⟨cb, hcb, hdr⟩ := HG.out i his
      have hP := HP.out
      rw [hdr] at hP
      have hcl : cb.toNat < 256 := cb.toNat_lt
      by_cases hdig : 48 ≤ cb.toNat ∧ cb.toNat ≤ 57
      · rw [parse_digit acc cb _ hdig.1 hdig.2 ha] at hP
        obtain ⟨c, hc⟩ : ∃ c : Nat, cb.toNat = c := ⟨_, rfl⟩
        rw [hc] at hcb hdig hP hcl
        obtain ⟨d, hd⟩ : ∃ d : Nat, c = d + 48 := ⟨c - 48, by omega⟩
        subst hd
        rw [show d + 48 - 48 = d by omega] at hP
        have hq2 : (18446744073709551615 - d) / 10 < acc ↔ 18446744073709551615 < acc * 10 + d := by
          rw [Nat.div_lt_iff_lt_mul (by decide)]; omega
        obtain ⟨q, hq⟩ : ∃ q, q = (18446744073709551615 - d) / 10 := ⟨_, rfl⟩
        rw [← hq] at hP hq2
        have hqi : (18446744073709551615 - (d : Int)) / 10 = (q : Int) := by omega
        clear hq
        have d9 : d ≤ 9 := by omega
        by_cases hover : q < acc
        · rw [if_pos hover] at hP
          have HE := Lib.hid hP
          have g1 : decide ((q : Int) < (acc : Int)) = true := by simpa using hover
          have g1' : decide (q < acc) = true := by simpa using hover
          clear hP HP hdr hdig hq2 hover
          go_wp2_with (go_at_call 54; refine (nearest_false _).mono ?_; rintro e w' ⟨rfl, rfl⟩)
          go_ret2
          exact ⟨by rw [HE.out]; rfl, Below.refl _ _⟩
        · rw [if_neg hover] at hP
          have HE := Lib.hid hP
          have g1 : decide ((q : Int) < (acc : Int)) = false := by simpa using hover
          have g1' : decide (q < acc) = false := by simpa using hover
          have hb : acc * 10 + d < 18446744073709551616 := by omega
          have ew : 10 * (acc : Int) + (d : Int) = ((acc * 10 + d : Nat) : Int) := by omega
          have EW := Lib.hid ew
          clear hP HP hdr hdig hq2 hover ew
          go_wp2
          go_round
          case rel => exact ⟨i + 1, acc * 10 + d, by omega, by go_num, by first | rfl | (rw [← EW.out]) | go_num, hb, HE.out⟩
          case measure => simp [intOf]; omega
      · have hout := no_digit acc cb (RL.drop (i + 1)) false hdig
        rw [← hP] at hout
        have HE := Lib.hid hout
        obtain ⟨c, hc⟩ : ∃ c : Nat, cb.toNat = c := ⟨_, rfl⟩
        rw [hc] at hcb hdig hcl
        clear hP HP hdr hout
        by_cases h48 : c < 48
        · have g1 : decide ((c : Int) < 48) = true := by simp; omega
          have g1' : decide (c < 48) = true := by simp; omega
          go_wp2
          go_ret2
          exact ⟨by rw [HE.out]; rfl, Below.refl _ _⟩
        · have h57 : 57 < c := by omega
          have g1 : decide ((c : Int) < 48) = false := by simp; omega
          have g2 : decide (57 < (c : Int)) = true := by simp; omega
          go_wp2
          go_ret2
          exact ⟨by rw [HE.out]; rfl, Below.refl _ _⟩
    · obtain rfl : i = n := by omega
      have hP := HP.out
      rw [List.drop_eq_nil_of_le (by rw [HL.out]; omega), Lib.parseUint10] at hP
      have HE := Lib.hid hP
      clear hP HP
      by_cases hbig : 9223372036854775808 ≤ acc
      · have g1 : decide (9223372036854775807 < (acc : Int)) = true := by simp; omega
        go_wp2_with (go_at_call 54; refine (nearest_false _).mono ?_; rintro e w' ⟨rfl, rfl⟩)
        go_ret2
        exact ⟨by rw [HE.out, outOf, if_neg (by decide), if_pos hbig]; rfl, Below.refl _ _⟩
      · have g1 : decide (9223372036854775807 < (acc : Int)) = false := by simp; omega
        go_wp2
        go_ret2
        exact ⟨by rw [HE.out, outOf, if_neg (by decide), if_neg hbig]; rfl, Below.refl _ _⟩

set_option maxHeartbeats 1000000 in
set_option maxRecDepth 100000 in
theorem read_minus0 (S : ByteArray) (hm : S.size = 1) (h0 : ∀ h : 0 < S.size, (S[0]'h).toNat = 45) (w : World) :
    Calls Tryd.prog 44 #[.string S] w fun e w' => e = .returned (.tuple #[.int .i64 0, .int .i64 1]) ∧ Below w.heap.size w w' := by
  have hc0 := h0 (by omega)
  clear h0
  go_enter Tryd.func44, Tryd.ntmps44
  go_wp2
  go_ret2
  exact ⟨rfl, Below.refl _ _⟩

set_option maxHeartbeats 1000000 in
set_option maxRecDepth 100000 in
theorem read_plus0 (S : ByteArray) (hm : S.size = 1) (h0 : ∀ h : 0 < S.size, (S[0]'h).toNat = 43) (w : World) :
    Calls Tryd.prog 44 #[.string S] w fun e w' => e = .returned (.tuple #[.int .i64 0, .int .i64 1]) ∧ Below w.heap.size w w' := by
  have hc0 := h0 (by omega)
  clear h0
  go_enter Tryd.func44, Tryd.ntmps44
  go_wp2
  go_ret2
  exact ⟨rfl, Below.refl _ _⟩

set_option maxHeartbeats 1000000 in
set_option maxRecDepth 100000 in
theorem read_empty (S : ByteArray) (hn : S.size = 0) (w : World) :
    Calls Tryd.prog 44 #[.string S] w fun e w' => e = .returned (.tuple #[.int .i64 0, .int .i64 1]) ∧ Below w.heap.size w w' := by
  go_enter Tryd.func44, Tryd.ntmps44
  go_wp2
  go_ret2
  exact ⟨rfl, Below.refl _ _⟩

theorem mag_of {l : List UInt8} (h : l ≠ []) : Lib.parseMag l = Lib.parseUint10 0 l := by rw [Lib.parseMag, if_neg h]
theorem first_of {c : UInt8} {r : List UInt8} : ∀ h : 0 < (bs (c :: r)).size, ((bs (c :: r))[0]'h).toNat = c.toNat := fun _ => rfl

/-- spec.read answers as impl.ParseInt(word, 10, 64). -/
theorem read_any (S : ByteArray) (lim : S.size ≤ 1099511627776) (w : World) :
    Calls Tryd.prog 44 #[.string S] w fun e w' => e = .returned (.tuple #[.int .i64 (readOut S.data.toList).1, .int .i64 (readOut S.data.toList).2]) ∧ Below w.heap.size w w' := by
  obtain ⟨l, hl⟩ : ∃ l, S = bs l := ⟨S.data.toList, (bs_eta S).symm⟩
  subst hl
  have hd : (bs l).data.toList = l := by simp [bs]
  rw [hd]
  have hsz := bs_size l
  rw [hsz] at lim
  cases l with
  | nil => exact read_empty _ rfl w
  | cons c r =>
    rw [List.length_cons] at hsz lim
    by_cases h45 : c.toNat = 45
    · obtain rfl : c = 45 := UInt8.toNat_inj.1 h45
      rw [readOut_minus]
      by_cases hr : r = []
      · subst hr
        exact read_minus0 _ rfl first_of w
      · rw [mag_of hr]
        have hp : 0 < r.length := List.length_pos_iff.2 hr
        exact read_minus (bs r) r r.length rfl (bs_size r) hp (by omega) _ (r.length + 1) hsz rfl first_of (bs_tail 45 r _ rfl) w
    · by_cases h43 : c.toNat = 43
      · obtain rfl : c = 43 := UInt8.toNat_inj.1 h43
        rw [readOut_plus]
        by_cases hr : r = []
        · subst hr
          exact read_plus0 _ rfl first_of w
        · rw [mag_of hr]
          have hp : 0 < r.length := List.length_pos_iff.2 hr
          exact read_plus (bs r) r r.length rfl (bs_size r) hp (by omega) _ (r.length + 1) hsz rfl first_of (bs_tail 43 r _ rfl) w
      · rw [readOut_plain c r h43 h45, mag_of (by simp)]
        exact read_plain (bs (c :: r)) (c :: r) (r.length + 1) rfl hsz (by omega) (by omega) _ rfl (fun h => by rw [first_of]; exact h43) (fun h => by rw [first_of]; exact h45) w

set_option maxHeartbeats 1000000 in
set_option maxRecDepth 100000 in
/-- spec.ReadNumbers: two rows of the call's own. -/
theorem specRead_any (w : World) (a0 : Option Addr) (n cap : Nat) (ws : List ByteArray) (hn : ws.length = n) (lc : n ≤ cap) (hin : StrsIn w a0 ws) (hsz : ∀ s ∈ ws, s.size ≤ 1048576) (hlim : n ≤ 1048576) :
    Calls Tryd.prog 27 #[.slice a0 n cap] w fun e w' => ∃ v1 v2, e = .returned (.tuple #[v1, v2]) ∧
      w'.ownsRow w.heap.size 2 1 v1 n (iCells (ws.map fun s => (readOut s.data.toList).1)) ∧ w'.ownsRow w.heap.size 3 1 v2 n (iCells (ws.map fun s => (readOut s.data.toList).2)) ∧ Below w.heap.size w w' := by
  have HN := Lib.hid hn
  have HIN := Lib.hid hin
  have HSZ := Lib.hid hsz
  clear hn hin hsz
  go_enter Tryd.func27, Tryd.ntmps27
  go_wp2
  go_loopw [4, 5, 6, 7, 8] (fun v1 v2 vj _ _ wr => ∃ j : Nat, j ≤ n ∧ vj = .int .i64 j ∧ wr.ownsRow w.heap.size 2 1 v1 j (iCells ((ws.take j).map fun s => (readOut s.data.toList).1)) ∧ wr.ownsRow w.heap.size 3 1 v2 j (iCells ((ws.take j).map fun s => (readOut s.data.toList).2)) ∧ Below w.heap.size w wr) (fun _ _ vj _ _ _ => n - (intOf vj).toNat)
  case atStart => exact ⟨0, by omega, rfl, World.ownsRow_nil _ _ _ _, World.ownsRow_nil _ _ _ _, Below.refl _ _⟩
  case round =>
    obtain ⟨j, hj, rfl, o1, o2, hbel⟩ := hrel
    by_cases hlt : j < n
    · have hjx : j < ws.length := by rw [HN.out]; exact hlt
      obtain ⟨blk, off, rfl, hcell⟩ := (HIN.out.on hbel) j hjx
      have n1 : (ws.take (j + 1)).map (fun s => (readOut s.data.toList).1) = (ws.take j).map (fun s => (readOut s.data.toList).1) ++ [(readOut (ws[j]'hjx).data.toList).1] := by rw [← List.take_append_getElem hjx, List.map_append]; rfl
      have n2 : (ws.take (j + 1)).map (fun s => (readOut s.data.toList).2) = (ws.take j).map (fun s => (readOut s.data.toList).2) ++ [(readOut (ws[j]'hjx).data.toList).2] := by rw [← List.take_append_getElem hjx, List.map_append]; rfl
      have hPT := fun w1 => read_any (ws[j]'hjx) (by have := HSZ.out _ (List.getElem_mem hjx); omega) w1
      generalize (ws.take j).map (fun s => (readOut s.data.toList).1) = l1 at *
      generalize (ws.take j).map (fun s => (readOut s.data.toList).2) = l2 at *
      generalize (readOut (ws[j]'hjx).data.toList).1 = x at *
      generalize (readOut (ws[j]'hjx).data.toList).2 = c at *
      generalize ws[j] = S at *
      have HP := Lib.hid hPT
      have N1 := Lib.hid n1
      have N2 := Lib.hid n2
      clear hPT n1 n2 hjx
      go_wp2_with (go_at_call 44; refine (HP.out _).mono ?_; rintro e w1 ⟨rfl, hw1⟩; refine Hid.out ?_)
      refine Lib.hid ?_
      have p1 := own_below o1 hw1
      have p2 := own_below o2 hw1
      have hb1 := hbel.trans (hw1.mono hbel.size)
      clear o1 o2 hcell
      go_wp2_with (at_builtin; refine append_one rfl _ _ Tryd.underlying22 infoI64 rfl rfl w.heap.size w _ (iCells l1) j rfl (p1.alloc _) (.int .i64 x) rfl w1.heap.size rfl (new_one _ _ _) (by omega) (by omega) (hb1.alloc hb1.size _) (Nat.le_refl _) ?_; intro v1' w2 q1 hb2 hg2; refine Hid.out ?_)
      refine Lib.hid ?_
      have q2 := (p2.alloc _).kept hg2 (rows_apart p2 p1 (by decide))
      clear p1 p2 hg2
      go_wp2_with (at_builtin; refine append_one rfl _ _ Tryd.underlying44 infoInt rfl rfl w.heap.size w _ (iCells l2) j rfl (q2.alloc _) (.int .i64 c) rfl w2.heap.size rfl (new_one _ _ _) (by omega) (by omega) (hb2.alloc hb2.size _) (Nat.le_refl _) ?_; intro v2' w3 r2 hb3 hg3; refine Hid.out ?_)
      refine Lib.hid ?_
      have r1 := (q1.alloc _).kept hg3 (rows_apart q1 q2 (by decide))
      clear q1 q2 hg3
      go_wp2
      refine ⟨⟨j + 1, by omega, by go_num, ?_, ?_, hb3⟩, ?_⟩
      · rw [N1.out]; simpa [iCells] using r1
      · rw [N2.out]; simpa [iCells] using r2
      · simp [intOf]; omega
    · obtain rfl : j = n := by omega
      rw [List.take_of_length_le (by rw [HN.out]; omega)] at o1 o2
      have O1 := Lib.hid o1
      have O2 := Lib.hid o2
      clear o1 o2
      go_wp2
      go_ret2
      exact ⟨_, _, rfl, O1.out, O2.out, hbel⟩
end Go.Proofs.YtenepfefpoiddaaDoor
