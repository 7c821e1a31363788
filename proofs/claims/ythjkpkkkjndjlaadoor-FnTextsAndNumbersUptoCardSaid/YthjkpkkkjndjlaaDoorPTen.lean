/- impl.ParseInt in base 10 at the text of a number. -/
import Derived.Test.YthjkpkkkjndjlaaDoorIntF
import Derived.Lib.ParseIntBTie
namespace Go.Proofs.YthjkpkkkjndjlaaDoor
open Go.RowKit

theorem dch_ge (d : Nat) (h : d < 36) : 48 ≤ (dch d).toNat := by rw [dch_toNat h]; split <;> omega
theorem parse10 (ds : List Nat) : ∀ acc, acc < 18446744073709551616 → (∀ d ∈ ds, d < 10) → Lib.parseUint10 acc (ds.map dch) = if acc * 10 ^ ds.length + val 10 ds < 18446744073709551616 then .ok (acc * 10 ^ ds.length + val 10 ds) else .range := by
  induction ds with
  | nil => intro acc h _; simp [Lib.parseUint10, val, h]
  | cons d r ih =>
    intro acc h hd
    have h1 : d < 10 := hd d (by simp)
    have e : (dch d).toNat = 48 + d := by rw [dch_toNat (by omega), if_pos h1]
    have e3 : acc * 10 ^ (d :: r).length + val 10 (d :: r) = (acc * 10 + d) * 10 ^ r.length + val 10 r := by
      rw [val_cons, List.length_cons, Nat.pow_succ, Nat.add_mul, Nat.mul_comm (10 ^ r.length) 10, ← Nat.mul_assoc]
      omega
    rw [e3, List.map_cons, Lib.parseUint10, if_pos (by omega), e]
    have p : (acc * 10 + d) * 1 ≤ (acc * 10 + d) * 10 ^ r.length := Nat.mul_le_mul_left _ (Nat.pow_pos (by decide))
    split
    · rw [if_neg (by omega)]
    · split
      · rw [if_neg (by omega)]
      · rw [show 48 + d - 48 = d by omega, ih (acc * 10 + d) (by omega) (fun x hx => hd x (by simp [hx]))]

theorem mag_text (u : Nat) (hu : u < 18446744073709551616) : Lib.parseMag (text 10 u) = .ok u := by
  have hne : text 10 u ≠ [] := fun h => digs_ne 10 u (List.map_eq_nil_iff.1 h)
  rw [Lib.parseMag, if_neg hne, text, parse10 (digs 10 u) 0 (by omega) (digs_bd (by omega) u), Nat.zero_mul, Nat.zero_add, val_digs (by omega), if_pos hu]
theorem parseIntB_itext (n : Int) (h0 : -9223372036854775808 ≤ n) (h1 : n ≤ 9223372036854775807) : Lib.parseIntB 64 (itext 10 n) = .ok n := by
  rw [Lib.parseIntB_64]
  by_cases hn : n < 0
  · rw [itext_neg hn, Lib.atoiAll_minus, mag_text _ (by omega)]
    simp only [Lib.signed]
    rw [if_neg (by omega)]
    congr 1
    omega
  · rw [itext_pos (by omega)]
    obtain ⟨d, r, hd⟩ : ∃ d r, digs 10 n.natAbs = d :: r := by
      cases h : digs 10 n.natAbs with
      | nil => exact absurd h (digs_ne _ _)
      | cons d r => exact ⟨d, r, rfl⟩
    have hm := mag_text n.natAbs (by omega)
    have hd2 := dch_ge d (by have := digs_bd (b := 10) (by omega) n.natAbs d (by rw [hd]; simp); omega)
    have ht : text 10 n.natAbs = dch d :: r.map dch := by rw [text, hd]; rfl
    rw [ht] at hm ⊢
    rw [Lib.atoiAll_plain _ _ (by omega) (by omega), hm]
    simp only [Lib.signless]
    rw [if_neg (by omega)]
    congr 1
    omega

theorem code_nil (w : World) : Calls Tryd.prog 29 #[.nilIface] w fun e w' => e = .returned (.int .i64 0) ∧ w = w' := by
  go_enter Tryd.func29, Tryd.ntmps29
  go_wp2
  go_ret
  exact ⟨rfl, rfl⟩
set_option maxRecDepth 100000 in
theorem sParseInt_ok0 (b : Nat) (x : Int) (S : ByteArray) (w : World)
    (HI : Hid (Calls Tryd.prog 41 #[.string S, .int .i64 b, .int .i64 64] w fun e w' => e = .returned (.tuple #[.int .i64 x, .nilIface]) ∧ Below w.heap.size w w')) :
    Calls Tryd.prog 28 #[.string S, .int .i64 b, .int .i64 64] w fun e w' => e = .returned (.tuple #[.int .i64 x, .nilIface]) ∧ Below w.heap.size w w' := by
  go_enter Tryd.func28, Tryd.ntmps28
  go_wp2_with (go_at_call 41; refine HI.out.mono ?_; rintro e w' ⟨rfl, hw⟩)
  go_ret2
  exact ⟨rfl, hw⟩

set_option maxRecDepth 100000 in
theorem ParseInt_ok0 (b : Nat) (x : Int) (S : ByteArray) (w : World)
    (HI : Hid (Calls Tryd.prog 41 #[.string S, .int .i64 b, .int .i64 64] w fun e w' => e = .returned (.tuple #[.int .i64 x, .nilIface]) ∧ Below w.heap.size w w')) :
    Calls Tryd.prog 18 #[.string S, .int .i64 b, .int .i64 64] w fun e w' => e = .returned (.tuple #[.int .i64 x, .int .i64 0]) ∧ Below w.heap.size w w' := by
  have H2 := Lib.hid (sParseInt_ok0 b x S w HI)
  clear HI
  go_enter Tryd.func18, Tryd.ntmps18
  go_wp2_with (first | (go_at_call 28; refine H2.out.mono ?_; rintro e w' ⟨rfl, hw⟩) | (go_at_call 29; refine (code_nil _).mono ?_; rintro e w' ⟨rfl, rfl⟩))
  go_ret2
  exact ⟨rfl, hw⟩

/-- The text of a number is read back. -/
theorem ParseInt_istr10 (n : Int) (h0 : -9223372036854775808 ≤ n) (h1 : n ≤ 9223372036854775807) (w : World) :
    Calls Tryd.prog 18 #[.string (istr 10 n), .int .i64 10, .int .i64 64] w fun e w' => e = .returned (.tuple #[.int .i64 n, .int .i64 0]) ∧ Below w.heap.size w w' := by
  have hl : (istr 10 n).data.toList = itext 10 n := by simp [istr, bs]
  have hs : (istr 10 n).size ≤ 65 := by
    have hd := digs_len (b := 10) (by omega) 63 n.natAbs (by omega)
    rw [istr, bs_size]
    unfold itext
    split
    · rw [List.length_cons, text_len]; omega
    · rw [text_len]; omega
  have hI : Calls Tryd.prog 41 #[.string (istr 10 n), .int .i64 10, .int .i64 64] w fun e w' => e = .returned (Lib.intTuple 78 (Lib.intSat 64 (istr 10 n).data.toList) (Lib.parseIntB 64 (istr 10 n).data.toList)) ∧ Below w.heap.size w w' := by
    refine (Tryd.internal_strconv_ParseInt_10_all64 (istr 10 n) (by omega) w).mono ?_
    rintro e w' ⟨rfl, hw⟩
    refine ⟨rfl, ?_⟩
    rcases hw with rfl | ⟨t, rfl⟩
    · exact Below.refl _ _
    · exact Lib.bytesWorld_below _ _ _
  rw [hl, parseIntB_itext n h0 h1] at hI
  exact ParseInt_ok0 10 n (istr 10 n) w (Lib.hid hI)
end Go.Proofs.YthjkpkkkjndjlaaDoor
