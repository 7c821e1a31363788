/- What is decoded of a text depends on the bytes that are taken alone; strconv.index, contains, unhex; UnquoteChar at what is not a number in base 16. -/
import Derived.Test.YthjkpkkkjndjlaaDoorQuote
import Derived.Test.YthjkpkkkjndjlaaDoorValid
import Derived.Lib.MapLaws
import Derived.Lib.Bytealg
import Derived.Lib.TrimUEq
namespace Go.Proofs.YthjkpkkkjndjlaaDoor
open Go.RowKit

theorem decodeN_local (n b0 b1 b2 b3 n' c1 c2 c3 : Nat) (hv : ¬ ((Lib.decodeN n b0 b1 b2 b3).1 = 65533 ∧ (Lib.decodeN n b0 b1 b2 b3).2 = 1)) (hn : (Lib.decodeN n b0 b1 b2 b3).2 ≤ n')
    (h1 : 2 ≤ (Lib.decodeN n b0 b1 b2 b3).2 → c1 = b1) (h2 : 3 ≤ (Lib.decodeN n b0 b1 b2 b3).2 → c2 = b2) (h3 : 4 ≤ (Lib.decodeN n b0 b1 b2 b3).2 → c3 = b3) :
    Lib.decodeN n' b0 c1 c2 c3 = Lib.decodeN n b0 b1 b2 b3 := by
  by_cases a : b0 < 128
  · simp only [Lib.decodeN, if_pos a]
  · by_cases p2 : b0 / 32 = 6 ∧ (1 < n ∧ b1 / 64 = 2)
    · by_cases q : b0 % 32 * 64 + b1 % 64 ≥ 128
      · have e : Lib.decodeN n b0 b1 b2 b3 = (b0 % 32 * 64 + b1 % 64, 2) := by simp only [Lib.decodeN, if_neg a, if_pos p2, if_pos q]
        rw [e] at hn h1 ⊢
        obtain rfl := h1 (show 2 ≤ 2 by omega)
        have hn' : 1 < n' := hn
        rw [Lib.decodeN, if_neg a, if_pos ⟨p2.1, hn', p2.2.2⟩, if_pos q]
      · have e : Lib.decodeN n b0 b1 b2 b3 = (65533, 1) := by simp only [Lib.decodeN, if_neg a, if_pos p2, if_neg q]
        exact absurd ⟨by rw [e], by rw [e]⟩ hv
    · by_cases p3 : b0 / 16 = 14 ∧ (1 < n ∧ b1 / 64 = 2) ∧ (2 < n ∧ b2 / 64 = 2)
      · by_cases q : b0 % 16 * 4096 + b1 % 64 * 64 + b2 % 64 ≥ 2048 ∧ (b0 % 16 * 4096 + b1 % 64 * 64 + b2 % 64 < 55296 ∨ (57344 ≤ b0 % 16 * 4096 + b1 % 64 * 64 + b2 % 64 ∧ b0 % 16 * 4096 + b1 % 64 * 64 + b2 % 64 ≤ 1114111))
        · have e : Lib.decodeN n b0 b1 b2 b3 = (b0 % 16 * 4096 + b1 % 64 * 64 + b2 % 64, 3) := by simp only [Lib.decodeN, if_neg a, if_neg p2, if_pos p3, if_pos q]
          rw [e] at hn h1 h2 ⊢
          obtain rfl := h1 (show 2 ≤ 3 by omega)
          obtain rfl := h2 (show 3 ≤ 3 by omega)
          have hn' : 2 < n' := hn
          have s2 : ¬ (b0 / 32 = 6 ∧ (1 < n' ∧ c1 / 64 = 2)) := by omega
          rw [Lib.decodeN, if_neg a, if_neg s2, if_pos ⟨p3.1, ⟨by omega, p3.2.1.2⟩, ⟨hn', p3.2.2.2⟩⟩, if_pos q]
        · have e : Lib.decodeN n b0 b1 b2 b3 = (65533, 1) := by simp only [Lib.decodeN, if_neg a, if_neg p2, if_pos p3, if_neg q]
          exact absurd ⟨by rw [e], by rw [e]⟩ hv
      · by_cases p4 : b0 / 8 = 30 ∧ (1 < n ∧ b1 / 64 = 2) ∧ (2 < n ∧ b2 / 64 = 2) ∧ (3 < n ∧ b3 / 64 = 2)
        · by_cases q : b0 % 8 * 262144 + b1 % 64 * 4096 + b2 % 64 * 64 + b3 % 64 ≥ 65536 ∧ (b0 % 8 * 262144 + b1 % 64 * 4096 + b2 % 64 * 64 + b3 % 64 < 55296 ∨ (57344 ≤ b0 % 8 * 262144 + b1 % 64 * 4096 + b2 % 64 * 64 + b3 % 64 ∧ b0 % 8 * 262144 + b1 % 64 * 4096 + b2 % 64 * 64 + b3 % 64 ≤ 1114111))
          · have e : Lib.decodeN n b0 b1 b2 b3 = (b0 % 8 * 262144 + b1 % 64 * 4096 + b2 % 64 * 64 + b3 % 64, 4) := by simp only [Lib.decodeN, if_neg a, if_neg p2, if_neg p3, if_pos p4, if_pos q]
            rw [e] at hn h1 h2 h3 ⊢
            obtain rfl := h1 (show 2 ≤ 4 by omega)
            obtain rfl := h2 (show 3 ≤ 4 by omega)
            obtain rfl := h3 (show 4 ≤ 4 by omega)
            have hn' : 3 < n' := hn
            have s2 : ¬ (b0 / 32 = 6 ∧ (1 < n' ∧ c1 / 64 = 2)) := by omega
            have s3 : ¬ (b0 / 16 = 14 ∧ (1 < n' ∧ c1 / 64 = 2) ∧ (2 < n' ∧ c2 / 64 = 2)) := by omega
            rw [Lib.decodeN, if_neg a, if_neg s2, if_neg s3, if_pos ⟨p4.1, ⟨by omega, p4.2.1.2⟩, ⟨by omega, p4.2.2.1.2⟩, ⟨hn', p4.2.2.2.2⟩⟩, if_pos q]
          · have e : Lib.decodeN n b0 b1 b2 b3 = (65533, 1) := by simp only [Lib.decodeN, if_neg a, if_neg p2, if_neg p3, if_pos p4, if_neg q]
            exact absurd ⟨by rw [e], by rw [e]⟩ hv
        · have e : Lib.decodeN n b0 b1 b2 b3 = (65533, 1) := by simp only [Lib.decodeN, if_neg a, if_neg p2, if_neg p3, if_neg p4]
          exact absurd ⟨by rw [e], by rw [e]⟩ hv

theorem decode_take (l t : List UInt8) (hne : l ≠ []) (hv : ¬ bad l) : Lib.decodeL (l.take (Lib.decodeL l).2 ++ t) = Lib.decodeL l := by
  have hle := Lib.decodeL_le l hne
  have hpos := decodeL_pos l
  obtain ⟨K, hK⟩ : ∃ K, K = (Lib.decodeL l).2 := ⟨_, rfl⟩
  rw [← hK] at hle hpos ⊢
  have hv' : ¬ ((Lib.decodeL l).1 = 65533 ∧ (Lib.decodeL l).2 = 1) := hv
  have hl : (l.take K ++ t).length = K + t.length := by simp; omega
  have hg : ∀ i, i < K → (l.take K ++ t).getD i 0 = l.getD i 0 := by
    intro i hi
    simp only [List.getD_eq_getElem?_getD]
    rw [List.getElem?_append_left (by simp; omega), List.getElem?_take, if_pos hi]
  rw [Lib.decodeL_N, Lib.decodeL_N l, hg 0 (by omega)]
  rw [Lib.decodeL_N l] at hv' hK
  exact decodeN_local _ _ _ _ _ _ _ _ _ hv' (by rw [← hK, hl]; omega) (fun h => by rw [hg 1 (by omega)]) (fun h => by rw [hg 2 (by omega)]) (fun h => by rw [hg 3 (by omega)])

theorem index_any (s : ByteArray) (c : Nat) (w : World) : Calls Tryd.prog 54 #[.string s, .int .u8 c] w fun e w' => e = .returned (.int .i64 (Lib.indexByte s.data.toList c.toUInt8)) ∧ w = w' := by
  have h8 := @run_callFunc_extern Tryd.prog 74 _ Extern.BytealgIndexByte.indexByte Tryd.func74 (by kernel_rfl) (by kernel_rfl) (by kernel_rfl) (by kernel_rfl)
  have h9 := Lib.run_indexByteString (P := Tryd.prog) s (c : Int) w
  rw [Int.toNat_natCast] at h9
  generalize Lib.indexByte s.data.toList c.toUInt8 = I at *
  go_enter Tryd.func54, Tryd.ntmps54
  go_wp2
  go_ret
  exact ⟨rfl, rfl⟩
theorem contains_any (s : ByteArray) (c : Nat) (w : World) : Calls Tryd.prog 55 #[.string s, .int .u8 c] w fun e w' => e = .returned (.bool (Lib.indexByte s.data.toList c.toUInt8 != -1)) ∧ w = w' := by
  have HI := Lib.hid (index_any s c w)
  generalize Lib.indexByte s.data.toList c.toUInt8 = I at *
  go_enter Tryd.func55, Tryd.ntmps55
  go_wp2_with (go_at_call 54; refine HI.out.mono ?_; rintro e w' ⟨rfl, rfl⟩)
  go_ret
  exact ⟨rfl, rfl⟩

end Go.Proofs.YthjkpkkkjndjlaaDoor
