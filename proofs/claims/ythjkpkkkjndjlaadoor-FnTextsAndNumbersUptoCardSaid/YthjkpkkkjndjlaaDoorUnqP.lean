/- The plain law under unquote: what a quoted step begins with, what is appended for it, and texts without any escape. -/
import Derived.Test.YthjkpkkkjndjlaaDoorUqS
import Derived.Test.YthjkpkkkjndjlaaDoorFmtA
import Derived.Lib.ValidLaws
namespace Go.Proofs.YthjkpkkkjndjlaaDoor
open Go.RowKit

/-- What unquote appends for one step. -/
def uqB (l : List UInt8) : List UInt8 := if bad l ∨ (Lib.decodeL l).1 < 128 then [l.getD 0 0] else l.take (Lib.decodeL l).2
theorem width_bad {l : List UInt8} (h : bad l) : (Lib.decodeL l).2 = 1 := h.2
theorem width_low {l : List UInt8} (hne : l ≠ []) (hb : ¬ bad l) (h : (Lib.decodeL l).1 < 128) : (Lib.decodeL l).2 = 1 ∧ (l.getD 0 0).toNat = (Lib.decodeL l).1 := by
  have henc := Lib.encode_decode l hne hb
  have hle := Lib.decodeL_le l hne
  have hpos := decodeL_pos l
  rw [Lib.encodeRune, Lib.encodeRuneZ_one (by omega) (by omega)] at henc
  have hlen := congrArg List.length henc
  simp at hlen
  have hK : (Lib.decodeL l).2 = 1 := by omega
  refine ⟨hK, ?_⟩
  rw [hK] at henc
  cases l with
  | nil => exact absurd rfl hne
  | cons c r =>
    obtain ⟨R, hR⟩ : ∃ R, R = (Lib.decodeL (c :: r)).1 := ⟨_, rfl⟩
    rw [← hR] at henc h ⊢
    have h3 : (R : Int).toNat.toUInt8 = c := by simpa using henc
    have h4 : (R : Int).toNat.toUInt8.toNat = R := by
      rw [Int.toNat_natCast]
      show (UInt8.ofNat R).toNat = R
      rw [UInt8.toNat_ofNat']; omega
    rw [h3] at h4
    simpa using h4
theorem uqB_take (l : List UInt8) (hne : l ≠ []) : uqB l = l.take (Lib.decodeL l).2 := by
  unfold uqB
  split
  · rename_i h
    have hK : (Lib.decodeL l).2 = 1 := by
      by_cases hb : bad l
      · exact hb.2
      · exact (width_low hne hb (h.resolve_left hb)).1
    rw [hK]
    cases l with
    | nil => exact absurd rfl hne
    | cons c r => simp
  · rfl

/-- The first byte of a quoted step is no quote and no newline. -/
theorem step_first (p : Int → Bool) (h10 : p 10 = false) (l : List UInt8) (hne : l ≠ []) : ∃ c r, nb (qStep p l) = c :: r ∧ c.toNat ≠ 34 ∧ c.toNat ≠ 10 := by
  by_cases hb : bad l
  · rw [qStep, if_pos hb]
    exact ⟨92, _, rfl, by decide, by decide⟩
  · rw [qStep, if_neg hb, escR]
    by_cases h1 : ((Lib.decodeL l).1 : Int) = 34 ∨ ((Lib.decodeL l).1 : Int) = 92
    · rw [if_pos h1]; exact ⟨92, _, rfl, by decide, by decide⟩
    · rw [if_neg h1]
      by_cases hp : p ((Lib.decodeL l).1 : Int) = true
      · rw [if_pos hp]
        have hn10 : (Lib.decodeL l).1 ≠ 10 := fun h => by rw [h] at hp; rw [show ((10 : Nat) : Int) = 10 from rfl, h10] at hp; exact absurd hp (by decide)
        have henc : nb (Lib.encodeRuneZ ((Lib.decodeL l).1 : Int)) = l.take (Lib.decodeL l).2 := Lib.encode_decode l hne hb
        have hpos := decodeL_pos l
        rw [henc]
        cases l with
        | nil => exact absurd rfl hne
        | cons c r =>
          obtain ⟨K, hK⟩ : ∃ K, (Lib.decodeL (c :: r)).2 = K + 1 := ⟨(Lib.decodeL (c :: r)).2 - 1, by omega⟩
          rw [hK]
          refine ⟨c, r.take K, rfl, ?_, ?_⟩
          · intro hc
            have := Lib.decodeL_ascii c r (by omega)
            rw [this] at h1
            simp at h1
            omega
          · intro hc
            have := Lib.decodeL_ascii c r (by omega)
            rw [this] at hn10
            simp at hn10
            omega
      · rw [if_neg hp]
        unfold escT
        repeat' split
        all_goals exact ⟨92, _, rfl, by decide, by decide⟩
end Go.Proofs.YthjkpkkkjndjlaaDoor
