/- UnquoteChar at one quoted step of a text: its rune, whether it is of more bytes, and the rest. -/
import Derived.Test.YthjkpkkkjndjlaaDoorUqH
namespace Go.Proofs.YthjkpkkkjndjlaaDoor
open Go.RowKit

def uqR (l : List UInt8) : Nat := if bad l then (l.getD 0 0).toNat else (Lib.decodeL l).1
def uqM (l : List UInt8) : Bool := if bad l then false else decide (128 ≤ (Lib.decodeL l).1)

theorem hex_at (r : Nat) : ∀ (N j : Nat), j < N → (Lib.hexDigits r N)[j]? = some (Lib.hexDigit (r / 16 ^ (N - 1 - j) % 16))
  | 0, j, h => by omega
  | N + 1, 0, _ => by simp [Lib.hexDigits]
  | N + 1, j + 1, h => by
    rw [Lib.hexDigits, List.getElem?_cons_succ, hex_at r N j (by omega)]
    congr 5
    omega
def hV (r N j : Nat) : Nat := r / 16 ^ (N - j)
def hD (r N j : Nat) : Nat := r / 16 ^ (N - 1 - j) % 16
theorem hV_zero {r N : Nat} (h : r < 16 ^ N) : hV r N 0 = 0 := Nat.div_eq_of_lt h
theorem hV_last (r N : Nat) : hV r N N = r := by simp [hV]
theorem hV_succ (r N j : Nat) (h : j < N) : hV r N (j + 1) = hV r N j * 16 + hD r N j := by
  have e1 : N - j = (N - 1 - j) + 1 := by omega
  have e2 : N - (j + 1) = N - 1 - j := by omega
  rw [hV, hV, hD, e1, e2, Nat.pow_succ, ← Nat.div_div_eq_div_mul]
  have := Nat.div_add_mod (r / 16 ^ (N - 1 - j)) 16
  omega
theorem hD_lt (r N j : Nat) : hD r N j < 16 := Nat.mod_lt _ (by decide)
theorem hV_le (r N j : Nat) : hV r N j ≤ r := Nat.div_le_self _ _
theorem hex_byte (d : Nat) (hd : d < 16) : (UInt8.ofNat (Lib.hexDigit d).toNat).toNat = if d < 10 then 48 + d else 87 + d := by
  unfold Lib.hexDigit
  split
  · rw [UInt8.toNat_ofNat']; omega
  · rw [UInt8.toNat_ofNat']; omega
theorem hex_get (r N : Nat) (t : List UInt8) (j : Nat) (h : j < (bs (nb (Lib.hexDigits r N) ++ t)).size) (hj : j < N) : ((bs (nb (Lib.hexDigits r N) ++ t))[j]'h).toNat = if hD r N j < 10 then 48 + hD r N j else 87 + hD r N j := by
  have hl : (nb (Lib.hexDigits r N)).length = N := by rw [nb, List.length_map, hexDigits_len]
  rw [bs_get, List.getElem_append_left (by omega)]
  have h2 := hex_at r N j hj
  have h3 : (nb (Lib.hexDigits r N))[j]? = some (UInt8.ofNat (Lib.hexDigit (hD r N j)).toNat) := by rw [nb, List.getElem?_map, h2]; rfl
  rw [List.getElem?_eq_getElem (by omega)] at h3
  rw [Option.some.inj h3]
  exact hex_byte _ (hD_lt r N j)
theorem first_is (c : UInt8) (r : List UInt8) (m : Nat) (hm : c.toNat = m) : ∀ h : 0 < (bs (c :: r)).size, ((bs (c :: r))[0]'h).toNat = m := fun _ => hm
theorem second_is (b c : UInt8) (r : List UInt8) (m : Nat) (hm : c.toNat = m) : ∀ h : 1 < (bs (b :: c :: r)).size, ((bs (b :: c :: r))[1]'h).toNat = m := fun _ => hm
theorem bs_drop (l t : List UInt8) (k n : Nat) (hk : k = l.length) (hn : n = (l ++ t).length) : (bs (l ++ t)).extract k n = bs t := by
  have h := bs_rest (l ++ t) k
  rw [bs_size, ← hn] at h
  rw [h, hk, List.drop_left]

/-- UnquoteChar at a number in base 16. -/
theorem uq_hex_u (r : Nat) (t : List UInt8) (hr : r < 65536) (hv : Lib.validRune (r : Int) = true) (lim : t.length ≤ 1099511627000) (w : World) :
    Calls Tryd.prog 58 #[.string (bs (92 :: 117 :: (nb (Lib.hexDigits r 4) ++ t))), .int .u8 34] w fun e w' => e = .returned (.tuple #[.int .i32 r, .bool true, .string (bs t), .nilIface]) ∧ Below w.heap.size w w' := by
  have hl : (nb (Lib.hexDigits r 4)).length = 4 := by rw [nb, List.length_map, hexDigits_len]
  have h := uq_u (bs (92 :: 117 :: (nb (Lib.hexDigits r 4) ++ t))) (bs (nb (Lib.hexDigits r 4) ++ t)) (bs t) (6 + t.length) (4 + t.length) (by rw [bs_size]; simp [hl]; omega) (by omega) (first_is _ _ _ rfl) (second_is _ _ _ _ rfl)
    (bs_drop [92, 117] (nb (Lib.hexDigits r 4) ++ t) 2 _ rfl (by rw [List.length_append, List.length_append, hl]; show _ = 2 + _; omega)) (by rw [bs_size]; simp [hl]) (by omega) (bs_drop _ _ 4 _ hl.symm (by simp [hl])) (by omega) (by omega) (hV r 4) (hD r 4) (hV_zero (by omega)) (hV_succ r 4) (fun j _ => hD_lt r 4 j) (fun j _ => Nat.le_trans (hV_le r 4 j) (by omega)) (hex_get r 4 t) (by rw [hV_last]; exact hv) w
  rwa [hV_last] at h
theorem uq_hex_U (r : Nat) (t : List UInt8) (hr : r ≤ 1114111) (hv : Lib.validRune (r : Int) = true) (lim : t.length ≤ 1099511627000) (w : World) :
    Calls Tryd.prog 58 #[.string (bs (92 :: 85 :: (nb (Lib.hexDigits r 8) ++ t))), .int .u8 34] w fun e w' => e = .returned (.tuple #[.int .i32 r, .bool true, .string (bs t), .nilIface]) ∧ Below w.heap.size w w' := by
  have hl : (nb (Lib.hexDigits r 8)).length = 8 := by rw [nb, List.length_map, hexDigits_len]
  have h := uq_U (bs (92 :: 85 :: (nb (Lib.hexDigits r 8) ++ t))) (bs (nb (Lib.hexDigits r 8) ++ t)) (bs t) (10 + t.length) (8 + t.length) (by rw [bs_size]; simp [hl]; omega) (by omega) (first_is _ _ _ rfl) (second_is _ _ _ _ rfl)
    (bs_drop [92, 85] (nb (Lib.hexDigits r 8) ++ t) 2 _ rfl (by rw [List.length_append, List.length_append, hl]; show _ = 2 + _; omega)) (by rw [bs_size]; simp [hl]) (by omega) (bs_drop _ _ 8 _ hl.symm (by simp [hl])) (by omega) (by omega) (hV r 8) (hD r 8) (hV_zero (by omega)) (hV_succ r 8) (fun j _ => hD_lt r 8 j) (fun j _ => Nat.le_trans (hV_le r 8 j) hr) (hex_get r 8 t) (by rw [hV_last]; exact hv) w
  rwa [hV_last] at h
theorem uq_hex_x (r : Nat) (t : List UInt8) (hr : r < 256) (lim : t.length ≤ 1099511627000) (w : World) :
    Calls Tryd.prog 58 #[.string (bs (nb [92, 120, Lib.hexDigit (r / 16), Lib.hexDigit (r % 16)] ++ t)), .int .u8 34] w fun e w' => e = .returned (.tuple #[.int .i32 r, .bool false, .string (bs t), .nilIface]) ∧ Below w.heap.size w w' := by
  have e : [Lib.hexDigit (r / 16), Lib.hexDigit (r % 16)] = Lib.hexDigits r 2 := by
    simp only [Lib.hexDigits, Nat.pow_one, Nat.pow_zero, Nat.div_one]
    rw [show r / 16 % 16 = r / 16 by omega]
  have e2 : nb [92, 120, Lib.hexDigit (r / 16), Lib.hexDigit (r % 16)] ++ t = 92 :: 120 :: (nb (Lib.hexDigits r 2) ++ t) := by rw [← e]; rfl
  rw [e2]
  have hl : (nb (Lib.hexDigits r 2)).length = 2 := by rw [nb, List.length_map, hexDigits_len]
  have h := uq_x (bs (92 :: 120 :: (nb (Lib.hexDigits r 2) ++ t))) (bs (nb (Lib.hexDigits r 2) ++ t)) (bs t) (4 + t.length) (2 + t.length) (by rw [bs_size]; simp [hl]; omega) (by omega) (first_is _ _ _ rfl) (second_is _ _ _ _ rfl)
    (bs_drop [92, 120] (nb (Lib.hexDigits r 2) ++ t) 2 _ rfl (by rw [List.length_append, List.length_append, hl]; show _ = 2 + _; omega)) (by rw [bs_size]; simp [hl]) (by omega) (bs_drop _ _ 2 _ hl.symm (by simp [hl])) (by omega) (by omega) (hV r 2) (hD r 2) (hV_zero (by omega)) (hV_succ r 2) (fun j _ => hD_lt r 2 j) (fun j _ => Nat.le_trans (hV_le r 2 j) (by omega)) (hex_get r 2 t) w
  rwa [hV_last] at h

/-- UnquoteChar at one quoted step. -/
theorem uq_step (p : Int → Bool) (hlat : ∀ r : Int, 32 ≤ r → r < 127 → p r = true) (l : List UInt8) (hne : l ≠ []) (t : List UInt8) (lim : t.length ≤ 1099511626000) (w : World) (hT : Lib.Utf8Tabs 3 4 w) :
    Calls Tryd.prog 58 #[.string (bs (nb (qStep p l) ++ t)), .int .u8 34] w fun e w' => e = .returned (.tuple #[.int .i32 (uqR l : Nat), .bool (uqM l), .string (bs t), .nilIface]) ∧ Below w.heap.size w w' := by
  by_cases hb : bad l
  · rw [qStep, if_pos hb, uqR, if_pos hb, uqM, if_pos hb]
    exact uq_hex_x _ t (UInt8.toNat_lt _) (by omega) w
  · rw [qStep, if_neg hb, uqR, if_neg hb, uqM, if_neg hb]
    have hval := decodeL_valid l
    have hbd := Lib.decodeL_rune l
    have hdt := decode_take l t hne hb
    have hle := Lib.decodeL_le l hne
    have hpos := decodeL_pos l
    have henc := Lib.encode_decode l hne hb
    have hlow : 128 ≤ (Lib.decodeL l).1 → 128 ≤ (l.getD 0 0).toNat := fun h => by
      cases l with
      | nil => exact absurd rfl hne
      | cons c r =>
        by_cases hc : c.toNat < 128
        · rw [Lib.decodeL_ascii c r hc] at h
          exact absurd h (by simp; omega)
        · simpa using hc
    obtain ⟨R, hR⟩ : ∃ R, R = (Lib.decodeL l).1 := ⟨_, rfl⟩
    obtain ⟨K, hK⟩ : ∃ K, K = (Lib.decodeL l).2 := ⟨_, rfl⟩
    have hpair : Lib.decodeL l = (R, K) := by rw [hR, hK]
    rw [← hR] at hval hbd henc hlow ⊢
    rw [← hK] at hdt hle hpos henc
    by_cases h34 : R = 34
    · subst h34
      exact uq_esc34 _ (bs t) (2 + t.length) (by rw [bs_size]; simp; omega) (by omega) (first_is _ _ _ rfl) (second_is _ _ _ _ rfl) (bs_drop [92, 34] t 2 _ rfl (by rw [List.length_append]; rfl)) (by omega) w
    by_cases h92 : R = 92
    · subst h92
      exact uq_esc92 _ (bs t) (2 + t.length) (by rw [bs_size]; simp; omega) (by omega) (first_is _ _ _ rfl) (second_is _ _ _ _ rfl) (bs_drop [92, 92] t 2 _ rfl (by rw [List.length_append]; rfl)) (by omega) w
    rw [escR, if_neg (by omega)]
    by_cases hp : p (R : Int) = true
    · rw [if_pos hp]
      by_cases h128 : R < 128
      · rw [Lib.encodeRuneZ_one (by omega) (by omega)]
        have hd : decide (128 ≤ R) = false := by simp; omega
        rw [hd]
        have hcb : (UInt8.ofNat (R : Int).toNat).toNat = R := by rw [UInt8.toNat_ofNat']; omega
        exact uq_ascii _ (bs t) (1 + t.length) R (by rw [bs_size]; simp; omega) (by omega) (first_is _ _ _ hcb) h128 h34 h92 (bs_drop [UInt8.ofNat (R : Int).toNat] t 1 _ rfl (by rw [List.length_append]; rfl)) (by omega) w
      · have hd : decide (128 ≤ R) = true := by simp; omega
        rw [hd]
        have hnb : nb (Lib.encodeRuneZ (R : Int)) = l.take K := henc
        have hlt : (l.take K).length = K := by simp; omega
        have hK4 : K ≤ 4 := by
          have h7 := Lib.encodeRuneZ_length_le (R : Int)
          have h8 : (nb (Lib.encodeRuneZ (R : Int))).length = K := by rw [hnb, hlt]
          rw [nb, List.length_map] at h8
          omega
        rw [hnb]
        have hcd : Calls Tryd.prog 57 #[.string (bs (l.take K ++ t))] w fun e w' => e = .returned (.tuple #[.int .i32 R, .int .i64 K]) ∧ Below w.heap.size w w' := by
          have h9 := Tryd.utf8_DecodeRuneInString (bs (l.take K ++ t)) w hT
          rwa [decodeGo_bs _ (by intro h; have := congrArg List.length h; rw [List.length_append, hlt, List.length_nil] at this; omega), hdt, hpair] at h9
        have hfst : ∀ h : 0 < (bs (l.take K ++ t)).size, ((bs (l.take K ++ t))[0]'h).toNat = (l.getD 0 0).toNat := fun h => by
          rw [bs_get, List.getElem_append_left (by omega), List.getElem_take]
          have h5 : 0 < l.length := by omega
          simp [List.getD, List.getElem?_eq_getElem h5]
        exact uq_multi _ (bs t) (K + t.length) (l.getD 0 0).toNat R K (by rw [bs_size, List.length_append, hlt]) (by omega) hfst (hlow (by omega)) (UInt8.toNat_lt _) (by omega) (bs_drop _ _ K _ hlt.symm (by rw [List.length_append, hlt])) (by omega) w (Lib.hid hcd)
    · rw [if_neg hp]
      unfold escT
      by_cases n7 : R = 7
      · subst n7
        exact uq_esc97 _ (bs t) (2 + t.length) (by rw [bs_size]; simp; omega) (by omega) (first_is _ _ _ rfl) (second_is _ _ _ _ rfl) (bs_drop [92, 97] t 2 _ rfl (by rw [List.length_append]; rfl)) (by omega) w
      by_cases n8 : R = 8
      · subst n8
        exact uq_esc98 _ (bs t) (2 + t.length) (by rw [bs_size]; simp; omega) (by omega) (first_is _ _ _ rfl) (second_is _ _ _ _ rfl) (bs_drop [92, 98] t 2 _ rfl (by rw [List.length_append]; rfl)) (by omega) w
      by_cases n12 : R = 12
      · subst n12
        exact uq_esc102 _ (bs t) (2 + t.length) (by rw [bs_size]; simp; omega) (by omega) (first_is _ _ _ rfl) (second_is _ _ _ _ rfl) (bs_drop [92, 102] t 2 _ rfl (by rw [List.length_append]; rfl)) (by omega) w
      by_cases n10 : R = 10
      · subst n10
        exact uq_esc110 _ (bs t) (2 + t.length) (by rw [bs_size]; simp; omega) (by omega) (first_is _ _ _ rfl) (second_is _ _ _ _ rfl) (bs_drop [92, 110] t 2 _ rfl (by rw [List.length_append]; rfl)) (by omega) w
      by_cases n13 : R = 13
      · subst n13
        exact uq_esc114 _ (bs t) (2 + t.length) (by rw [bs_size]; simp; omega) (by omega) (first_is _ _ _ rfl) (second_is _ _ _ _ rfl) (bs_drop [92, 114] t 2 _ rfl (by rw [List.length_append]; rfl)) (by omega) w
      by_cases n9 : R = 9
      · subst n9
        exact uq_esc116 _ (bs t) (2 + t.length) (by rw [bs_size]; simp; omega) (by omega) (first_is _ _ _ rfl) (second_is _ _ _ _ rfl) (bs_drop [92, 116] t 2 _ rfl (by rw [List.length_append]; rfl)) (by omega) w
      by_cases n11 : R = 11
      · subst n11
        exact uq_esc118 _ (bs t) (2 + t.length) (by rw [bs_size]; simp; omega) (by omega) (first_is _ _ _ rfl) (second_is _ _ _ _ rfl) (bs_drop [92, 118] t 2 _ rfl (by rw [List.length_append]; rfl)) (by omega) w
      by_cases hx : (R : Int) < 32 ∨ (R : Int) = 127
      · rw [if_neg (by omega), if_neg (by omega), if_neg (by omega), if_neg (by omega), if_neg (by omega), if_neg (by omega), if_neg (by omega), if_pos hx]
        have hd : decide (128 ≤ R) = false := by simp; omega
        rw [hd]
        exact uq_hex_x R t (by omega) (by omega) w
      · have h128 : 128 ≤ R := by
          by_cases h9 : R < 127
          · exact absurd (hlat (R : Int) (by omega) (by omega)) hp
          · omega
        rw [if_neg (by omega), if_neg (by omega), if_neg (by omega), if_neg (by omega), if_neg (by omega), if_neg (by omega), if_neg (by omega), if_neg hx]
        have hd : decide (128 ≤ R) = true := by simpa using h128
        rw [hd]
        by_cases h16 : (R : Int) < 65536
        · rw [if_pos h16]
          exact uq_hex_u R t (by omega) hval (by omega) w
        · rw [if_neg h16]
          exact uq_hex_U R t hbd hval (by omega) w
end Go.Proofs.YthjkpkkkjndjlaaDoor
