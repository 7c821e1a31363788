/- internal/strconv.ParseInt, strconv.ParseInt, impl.ParseInt at a text of digits, with a minus ahead or without, in every base from 2 to 36. -/
import Derived.Test.YtenepfefpoiddaaDoorEnvP
import Derived.Test.YtenepfefpoiddaaDoorIntF
namespace Go.Proofs.YtenepfefpoiddaaDoor
open Go.RowKit

theorem dch_ge (d : Nat) (h : d < 36) : 48 ≤ (dch d).toNat := by rw [dch_toNat h]; split <;> omega

/-- The first byte of a text of digits is no sign. -/
theorem first_digit {b : Nat} (hb2 : b ≤ 36) {ds : List Nat} (hbd : ∀ d ∈ ds, d < b) (h : 0 < (bs (ds.map dch)).size) : 48 ≤ ((bs (ds.map dch))[0]'h).toNat := by
  cases ds with
  | nil => exact absurd h (by decide)
  | cons d r =>
    rw [bs_get]
    exact dch_ge d (Nat.lt_of_lt_of_le (hbd d (by simp)) hb2)

theorem not_empty {S : ByteArray} (h : 0 < S.size) : S.toList.isEmpty = false := by
  rw [← bs_eta S, bs_toList]
  cases e : S.data.toList with
  | nil => rw [← bs_eta S, e] at h; exact absurd h (by decide)
  | cons => rfl

set_option maxHeartbeats 1000000 in
set_option maxRecDepth 100000 in
theorem iParseInt_pos0 (b V : Nat) (S : ByteArray) (hp : 0 < S.size) (hc : 48 ≤ (S[0]'hp).toNat) (h : V < 9223372036854775808) (w : World)
    (HI : Hid (Calls Tryd.prog 49 #[.string S, .int .i64 b, .int .i64 64] w fun e w' => e = .returned (.tuple #[.int .u64 V, .nilIface]) ∧ Below w.heap.size w w')) :
    Calls Tryd.prog 53 #[.string S, .int .i64 b, .int .i64 64] w fun e w' => e = .returned (.tuple #[.int .i64 V, .nilIface]) ∧ Below w.heap.size w w' := by
  have hemp := not_empty hp
  obtain ⟨c, hc1⟩ : ∃ c : Nat, (S[0]'hp).toNat = c := ⟨_, rfl⟩
  rw [hc1] at hc
  have q43 : ((c : Int) == 43) = false := by simp; omega
  have q45 : ((c : Int) == 45) = false := by simp; omega
  have t1 : decide (9223372036854775808 ≤ (V : Int)) = false := by simp; omega
  have ew : IntKind.i64.wrap (V : Int) = (V : Int) := by rw [IntKind.wrap_i64]; omega
  go_enter Tryd.func53, Tryd.ntmps53
  go_wp2_with (go_at_call 49; refine HI.out.mono ?_; rintro e w' ⟨rfl, hw⟩)
  go_ret2
  exact ⟨rfl, hw⟩

set_option maxHeartbeats 1000000 in
set_option maxRecDepth 100000 in
theorem iParseInt_top0 (b V : Nat) (S : ByteArray) (hp : 0 < S.size) (hc : 48 ≤ (S[0]'hp).toNat) (h : 9223372036854775808 ≤ V) (hV : V < 18446744073709551616) (w : World)
    (HI : Hid (Calls Tryd.prog 49 #[.string S, .int .i64 b, .int .i64 64] w fun e w' => e = .returned (.tuple #[.int .u64 V, .nilIface]) ∧ Below w.heap.size w w')) :
    Calls Tryd.prog 53 #[.string S, .int .i64 b, .int .i64 64] w fun e w' => e = .returned (.tuple #[.int .i64 9223372036854775807, .iface 73 (.int .i64 1)]) ∧ Below w.heap.size w w' := by
  have hemp := not_empty hp
  obtain ⟨c, hc1⟩ : ∃ c : Nat, (S[0]'hp).toNat = c := ⟨_, rfl⟩
  rw [hc1] at hc
  have q43 : ((c : Int) == 43) = false := by simp; omega
  have q45 : ((c : Int) == 45) = false := by simp; omega
  have t1 : decide (9223372036854775808 ≤ (V : Int)) = true := by simp; omega
  go_enter Tryd.func53, Tryd.ntmps53
  go_wp2_with (go_at_call 49; refine HI.out.mono ?_; rintro e w' ⟨rfl, hw⟩)
  go_ret2
  exact ⟨rfl, hw⟩

set_option maxHeartbeats 1000000 in
set_option maxRecDepth 100000 in
theorem iParseInt_neg0 (b V n : Nat) (S R : ByteArray) (hn : S.size = n) (hp : 0 < n) (hmax : n ≤ 281474976710656) (hc : (S[0]'(by omega)).toNat = 45) (hR : S.extract 1 n = R) (h : V ≤ 9223372036854775808) (w : World)
    (HI : Hid (Calls Tryd.prog 49 #[.string R, .int .i64 b, .int .i64 64] w fun e w' => e = .returned (.tuple #[.int .u64 V, .nilIface]) ∧ Below w.heap.size w w')) :
    Calls Tryd.prog 53 #[.string S, .int .i64 b, .int .i64 64] w fun e w' => e = .returned (.tuple #[.int .i64 (-(V : Int)), .nilIface]) ∧ Below w.heap.size w w' := by
  have hemp := not_empty (S := S) (by omega)
  have t1 : decide (9223372036854775808 < (V : Int)) = false := by simp; omega
  have ew : wrap64 (-(wrap64 (V : Int))) = -(V : Int) := by simp only [wrap64]; omega
  go_enter Tryd.func53, Tryd.ntmps53
  go_wp2_with (go_at_call 49; refine HI.out.mono ?_; rintro e w' ⟨rfl, hw⟩)
  go_ret2
  exact ⟨by rw [ew]; rfl, hw⟩

theorem digits_pos (ds : List Nat) (hne : ds ≠ []) : 0 < (bs (ds.map dch)).size := by
  rw [bs_size, List.length_map]; exact List.length_pos_iff.2 hne

theorem iParseInt_pos (b : Nat) (ds : List Nat) (hb : 2 ≤ b) (hb2 : b ≤ 36) (hbd : ∀ d ∈ ds, d < b) (hne : ds ≠ []) (hlen : ds.length ≤ 281474976710656) (h : val b ds < 9223372036854775808) (w : World) :
    Calls Tryd.prog 53 #[.string (bs (ds.map dch)), .int .i64 b, .int .i64 64] w fun e w' => e = .returned (.tuple #[.int .i64 (val b ds : Nat), .nilIface]) ∧ Below w.heap.size w w' := by
  have hI := iParseUint b ds hb hb2 hbd hne (by omega) w
  rw [numEnd, if_pos (by omega)] at hI
  exact iParseInt_pos0 b _ _ (digits_pos ds hne) (first_digit hb2 hbd _) h w (Lib.hid hI)

theorem iParseInt_top (b : Nat) (ds : List Nat) (hb : 2 ≤ b) (hb2 : b ≤ 36) (hbd : ∀ d ∈ ds, d < b) (hne : ds ≠ []) (hlen : ds.length ≤ 281474976710656) (h : 9223372036854775808 ≤ val b ds) (hV : val b ds < 18446744073709551616) (w : World) :
    Calls Tryd.prog 53 #[.string (bs (ds.map dch)), .int .i64 b, .int .i64 64] w fun e w' => e = .returned (.tuple #[.int .i64 9223372036854775807, .iface 73 (.int .i64 1)]) ∧ Below w.heap.size w w' := by
  have hI := iParseUint b ds hb hb2 hbd hne (by omega) w
  rw [numEnd, if_pos hV] at hI
  exact iParseInt_top0 b _ _ (digits_pos ds hne) (first_digit hb2 hbd _) h hV w (Lib.hid hI)

theorem bs_tail (c : UInt8) (l : List UInt8) (n : Nat) (h : n = l.length + 1) : (bs (c :: l)).extract 1 n = bs l := by
  apply ByteArray.ext
  subst h
  rw [ByteArray.data_extract]
  simp [bs, List.extract_toArray, List.extract]

theorem iParseInt_neg (b : Nat) (ds : List Nat) (hb : 2 ≤ b) (hb2 : b ≤ 36) (hbd : ∀ d ∈ ds, d < b) (hne : ds ≠ []) (hlen : ds.length + 1 ≤ 281474976710656) (h : val b ds ≤ 9223372036854775808) (w : World) :
    Calls Tryd.prog 53 #[.string (bs (45 :: ds.map dch)), .int .i64 b, .int .i64 64] w fun e w' => e = .returned (.tuple #[.int .i64 (-(val b ds : Nat) : Int), .nilIface]) ∧ Below w.heap.size w w' := by
  have hI := iParseUint b ds hb hb2 hbd hne (by omega) w
  rw [numEnd, if_pos (by omega)] at hI
  exact iParseInt_neg0 b _ (ds.length + 1) _ (bs (ds.map dch)) (by rw [bs_size, List.length_cons, List.length_map]) (by omega) hlen rfl (bs_tail _ _ _ (by rw [List.length_map])) h w (Lib.hid hI)
end Go.Proofs.YtenepfefpoiddaaDoor
