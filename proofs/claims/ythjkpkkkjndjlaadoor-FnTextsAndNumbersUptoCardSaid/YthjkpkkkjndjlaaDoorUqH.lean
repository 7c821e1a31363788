/- UnquoteChar at numbers in base 16: \x, \u, \U. -/
import Derived.Test.YthjkpkkkjndjlaaDoorUqC
import Derived.Laws.BitsAllLaws
import Derived.Laws.BitsLemmas
namespace Go.Proofs.YthjkpkkkjndjlaaDoor
open Go.RowKit

theorem unhex_any (d : Nat) (hd : d < 16) (c : Nat) (hc : c = if d < 10 then 48 + d else 87 + d) (w : World) : Calls Tryd.prog 77 #[.int .u8 c] w fun e w' => e = .returned (.tuple #[.int .i32 d, .bool true]) ∧ w = w' := by
  by_cases h : d < 10
  · rw [if_pos h] at hc
    have e1 : (c : Int) - 48 = (d : Int) := by omega
    have g1 : decide (48 ≤ (c : Int)) = true := by simp; omega
    have g2 : decide ((c : Int) ≤ 57) = true := by simp; omega
    have hcl : c < 256 := by omega
    clear hc
    go_enter Tryd.func77, Tryd.ntmps77
    go_wp2
    go_ret2
    exact ⟨by first | rfl | rw [e1]; rfl, rfl⟩
  · rw [if_neg h] at hc
    have e1 : (c : Int) - 97 + 10 = (d : Int) := by omega
    have g1 : decide (48 ≤ (c : Int)) = true := by simp; omega
    have g2 : decide ((c : Int) ≤ 57) = false := by simp; omega
    have g3 : decide (97 ≤ (c : Int)) = true := by simp; omega
    have g4 : decide ((c : Int) ≤ 102) = true := by simp; omega
    have hcl : c < 256 := by omega
    clear hc
    go_enter Tryd.func77, Tryd.ntmps77
    go_wp2
    go_ret2
    exact ⟨by first | rfl | rw [e1]; rfl, rfl⟩

theorem i32_or4 (a b : Nat) (hb : b < 16) (ha : a < 100000000) : bits .or .i32 ((a : Int) * 16) (b : Int) = ((a * 16 + b : Nat) : Int) := by
  have e : ((a : Int) * 16) = ((a * 16 : Nat) : Int) := by omega
  have hx : a * 16 ||| b = a * 16 + b := nat_join 4 (a * 16) b (by omega) (by omega)
  show IntKind.i32.wrap ((BitVec.ofInt 32 ((a : Int) * 16) ||| BitVec.ofInt 32 (b : Int)).toNat : Int) = _
  rw [e, BitVec.toNat_or, ofInt_u32 (a * 16) (by omega), ofInt_u32 b (by omega), hx, IntKind.wrap_i32]
  omega





set_option maxHeartbeats 2000000 in
set_option maxRecDepth 1000000 in
theorem uq_x (S T R : ByteArray) (n m : Nat) (hn : S.size = n) (hp : 2 ≤ n) (h0 : ∀ h : 0 < S.size, (S[0]'h).toNat = 92) (h1 : ∀ h : 1 < S.size, (S[1]'h).toNat = 120) (hT : S.extract 2 n = T) (hm : T.size = m) (hm2 : 2 ≤ m) (hR : T.extract 2 m = R) (lim : n ≤ 1099511627776) (lim2 : m ≤ 1099511627776)
    (V dg : Nat → Nat) (v0 : V 0 = 0) (hV : ∀ j, j < 2 → V (j + 1) = V j * 16 + dg j) (hdg : ∀ j, j < 2 → dg j < 16) (hVb : ∀ j, j ≤ 2 → V j ≤ 1114111) (hget : ∀ j (h : j < T.size), j < 2 → (T[j]'h).toNat = if dg j < 10 then 48 + dg j else 87 + dg j) (w : World) :
    Calls Tryd.prog 58 #[.string S, .int .u8 34] w fun e w' => e = .returned (.tuple #[.int .i32 (V 2 : Nat), .bool false, .string R, .nilIface]) ∧ Below w.heap.size w w' := by
  have hc0 := h0 (by omega)
  have hc1 := h1 (by omega)
  have HV := Lib.hid hV
  have HD := Lib.hid hdg
  have HB := Lib.hid hVb
  have HG := Lib.hid hget
  have H0 := Lib.hid v0
  have hVN := hVb 2 (by omega)
  have gn0 : ((n : Int) == 0) = false := by simp; omega
  clear h0 h1 hV hdg hVb hget v0
  go_enter Tryd.func58, Tryd.ntmps58
  go_big_wp2
  go_loop [7, 13, 14, 15, 16] (fun ve vv vj _ _ => ∃ j : Nat, ve = .nilIface ∧ j ≤ 2 ∧ vj = .int .i64 j ∧ vv = .int .i32 (V j : Nat)) (fun _ _ vj _ _ => 2 - (intOf vj).toNat)
  case atStart => exact ⟨0, rfl, by omega, rfl, by rw [H0.out]; rfl⟩
  case round =>
    obtain ⟨j, rfl, hj, rfl, rfl⟩ := hrel
    by_cases hlt : j < 2
    · have hjt : j < T.size := by omega
      have hg := HG.out j hjt hlt
      have hd := HD.out j hlt
      have hv := HV.out j hlt
      have hvb := HB.out j (by omega)
      have hvb2 := HB.out (j + 1) (by omega)
      obtain ⟨c, hc⟩ : ∃ c : Nat, (T[j]'hjt).toNat = c := ⟨_, rfl⟩
      rw [hc] at hg
      have HU := Lib.hid (unhex_any (dg j) hd c hg w)
      have hor := i32_or4 (V j) (dg j) hd (by omega)
      rw [← hv] at hor
      have hcl : c < 256 := by rw [← hc]; exact UInt8.toNat_lt _
      obtain ⟨v', hv'⟩ : ∃ v', v' = V (j + 1) := ⟨_, rfl⟩
      rw [← hv'] at hor hvb2
      have HV1 := Lib.hid hv'
      clear hv' hv hg
      generalize V j = v at *
      generalize dg j = d at *
      have hjI : (j : Int) < (m : Int) := by omega
      go_big_wp2_with (go_at_call 77; refine HU.out.mono ?_; rintro e w' ⟨rfl, rfl⟩)
      go_round
      case rel => exact ⟨j + 1, rfl, by omega, by go_num, by rw [← HV1.out]⟩
      case measure => simp [intOf]; omega
    · obtain rfl : j = 2 := by omega
      go_big_wp2
      (try simp only [Exit.inBlock, Exit.then]); refine bodyPost_ret (results_tmp4 rfl _ _ _) rfl ?_
      exact ⟨rfl, Below.refl _ _⟩

set_option maxHeartbeats 2000000 in
set_option maxRecDepth 1000000 in
theorem uq_u (S T R : ByteArray) (n m : Nat) (hn : S.size = n) (hp : 2 ≤ n) (h0 : ∀ h : 0 < S.size, (S[0]'h).toNat = 92) (h1 : ∀ h : 1 < S.size, (S[1]'h).toNat = 117) (hT : S.extract 2 n = T) (hm : T.size = m) (hm2 : 4 ≤ m) (hR : T.extract 4 m = R) (lim : n ≤ 1099511627776) (lim2 : m ≤ 1099511627776)
    (V dg : Nat → Nat) (v0 : V 0 = 0) (hV : ∀ j, j < 4 → V (j + 1) = V j * 16 + dg j) (hdg : ∀ j, j < 4 → dg j < 16) (hVb : ∀ j, j ≤ 4 → V j ≤ 1114111) (hget : ∀ j (h : j < T.size), j < 4 → (T[j]'h).toNat = if dg j < 10 then 48 + dg j else 87 + dg j) (hval : Lib.validRune ((V 4 : Nat) : Int) = true) (w : World) :
    Calls Tryd.prog 58 #[.string S, .int .u8 34] w fun e w' => e = .returned (.tuple #[.int .i32 (V 4 : Nat), .bool true, .string R, .nilIface]) ∧ Below w.heap.size w w' := by
  have hc0 := h0 (by omega)
  have hc1 := h1 (by omega)
  have HV := Lib.hid hV
  have HD := Lib.hid hdg
  have HB := Lib.hid hVb
  have HG := Lib.hid hget
  have H0 := Lib.hid v0
  have hVN := hVb 4 (by omega)
  have gn0 : ((n : Int) == 0) = false := by simp; omega
  have HR := Lib.hid hval
  clear hval
  clear h0 h1 hV hdg hVb hget v0
  go_enter Tryd.func58, Tryd.ntmps58
  go_big_wp2
  go_loop [7, 13, 14, 15, 16] (fun ve vv vj _ _ => ∃ j : Nat, ve = .nilIface ∧ j ≤ 4 ∧ vj = .int .i64 j ∧ vv = .int .i32 (V j : Nat)) (fun _ _ vj _ _ => 4 - (intOf vj).toNat)
  case atStart => exact ⟨0, rfl, by omega, rfl, by rw [H0.out]; rfl⟩
  case round =>
    obtain ⟨j, rfl, hj, rfl, rfl⟩ := hrel
    by_cases hlt : j < 4
    · have hjt : j < T.size := by omega
      have hg := HG.out j hjt hlt
      have hd := HD.out j hlt
      have hv := HV.out j hlt
      have hvb := HB.out j (by omega)
      have hvb2 := HB.out (j + 1) (by omega)
      obtain ⟨c, hc⟩ : ∃ c : Nat, (T[j]'hjt).toNat = c := ⟨_, rfl⟩
      rw [hc] at hg
      have HU := Lib.hid (unhex_any (dg j) hd c hg w)
      have hor := i32_or4 (V j) (dg j) hd (by omega)
      rw [← hv] at hor
      have hcl : c < 256 := by rw [← hc]; exact UInt8.toNat_lt _
      obtain ⟨v', hv'⟩ : ∃ v', v' = V (j + 1) := ⟨_, rfl⟩
      rw [← hv'] at hor hvb2
      have HV1 := Lib.hid hv'
      clear hv' hv hg
      generalize V j = v at *
      generalize dg j = d at *
      have hjI : (j : Int) < (m : Int) := by omega
      go_big_wp2_with (go_at_call 77; refine HU.out.mono ?_; rintro e w' ⟨rfl, rfl⟩)
      go_round
      case rel => exact ⟨j + 1, rfl, by omega, by go_num, by rw [← HV1.out]⟩
      case measure => simp [intOf]; omega
    · obtain rfl : j = 4 := by omega
      go_big_wp2_with (go_at_call 78; refine (Tryd.utf8_ValidRune _ _).mono ?_; rintro e w' ⟨rfl, rfl⟩; rw [HR.out])
      (try simp only [Exit.inBlock, Exit.then]); refine bodyPost_ret (results_tmp4 rfl _ _ _) rfl ?_
      exact ⟨rfl, Below.refl _ _⟩

set_option maxHeartbeats 2000000 in
set_option maxRecDepth 1000000 in
theorem uq_U (S T R : ByteArray) (n m : Nat) (hn : S.size = n) (hp : 2 ≤ n) (h0 : ∀ h : 0 < S.size, (S[0]'h).toNat = 92) (h1 : ∀ h : 1 < S.size, (S[1]'h).toNat = 85) (hT : S.extract 2 n = T) (hm : T.size = m) (hm2 : 8 ≤ m) (hR : T.extract 8 m = R) (lim : n ≤ 1099511627776) (lim2 : m ≤ 1099511627776)
    (V dg : Nat → Nat) (v0 : V 0 = 0) (hV : ∀ j, j < 8 → V (j + 1) = V j * 16 + dg j) (hdg : ∀ j, j < 8 → dg j < 16) (hVb : ∀ j, j ≤ 8 → V j ≤ 1114111) (hget : ∀ j (h : j < T.size), j < 8 → (T[j]'h).toNat = if dg j < 10 then 48 + dg j else 87 + dg j) (hval : Lib.validRune ((V 8 : Nat) : Int) = true) (w : World) :
    Calls Tryd.prog 58 #[.string S, .int .u8 34] w fun e w' => e = .returned (.tuple #[.int .i32 (V 8 : Nat), .bool true, .string R, .nilIface]) ∧ Below w.heap.size w w' := by
  have hc0 := h0 (by omega)
  have hc1 := h1 (by omega)
  have HV := Lib.hid hV
  have HD := Lib.hid hdg
  have HB := Lib.hid hVb
  have HG := Lib.hid hget
  have H0 := Lib.hid v0
  have hVN := hVb 8 (by omega)
  have gn0 : ((n : Int) == 0) = false := by simp; omega
  have HR := Lib.hid hval
  clear hval
  clear h0 h1 hV hdg hVb hget v0
  go_enter Tryd.func58, Tryd.ntmps58
  go_big_wp2
  go_loop [7, 13, 14, 15, 16] (fun ve vv vj _ _ => ∃ j : Nat, ve = .nilIface ∧ j ≤ 8 ∧ vj = .int .i64 j ∧ vv = .int .i32 (V j : Nat)) (fun _ _ vj _ _ => 8 - (intOf vj).toNat)
  case atStart => exact ⟨0, rfl, by omega, rfl, by rw [H0.out]; rfl⟩
  case round =>
    obtain ⟨j, rfl, hj, rfl, rfl⟩ := hrel
    by_cases hlt : j < 8
    · have hjt : j < T.size := by omega
      have hg := HG.out j hjt hlt
      have hd := HD.out j hlt
      have hv := HV.out j hlt
      have hvb := HB.out j (by omega)
      have hvb2 := HB.out (j + 1) (by omega)
      obtain ⟨c, hc⟩ : ∃ c : Nat, (T[j]'hjt).toNat = c := ⟨_, rfl⟩
      rw [hc] at hg
      have HU := Lib.hid (unhex_any (dg j) hd c hg w)
      have hor := i32_or4 (V j) (dg j) hd (by omega)
      rw [← hv] at hor
      have hcl : c < 256 := by rw [← hc]; exact UInt8.toNat_lt _
      obtain ⟨v', hv'⟩ : ∃ v', v' = V (j + 1) := ⟨_, rfl⟩
      rw [← hv'] at hor hvb2
      have HV1 := Lib.hid hv'
      clear hv' hv hg
      generalize V j = v at *
      generalize dg j = d at *
      have hjI : (j : Int) < (m : Int) := by omega
      go_big_wp2_with (go_at_call 77; refine HU.out.mono ?_; rintro e w' ⟨rfl, rfl⟩)
      go_round
      case rel => exact ⟨j + 1, rfl, by omega, by go_num, by rw [← HV1.out]⟩
      case measure => simp [intOf]; omega
    · obtain rfl : j = 8 := by omega
      go_big_wp2_with (go_at_call 78; refine (Tryd.utf8_ValidRune _ _).mono ?_; rintro e w' ⟨rfl, rfl⟩; rw [HR.out])
      (try simp only [Exit.inBlock, Exit.then]); refine bodyPost_ret (results_tmp4 rfl _ _ _) rfl ?_
      exact ⟨rfl, Below.refl _ _⟩
end Go.Proofs.YthjkpkkkjndjlaaDoor
