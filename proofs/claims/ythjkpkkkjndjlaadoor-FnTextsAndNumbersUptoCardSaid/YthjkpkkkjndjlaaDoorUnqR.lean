/- A quoted text has no escape at all, and then is the text itself, or a backslash stands ahead of its first quote. -/
import Derived.Test.YthjkpkkkjndjlaaDoorUnq
import Derived.Lib.IndexLaws
import Derived.Deep.QuietTactic
import Derived.BigQuiet
namespace Go.Proofs.YthjkpkkkjndjlaaDoor
open Go.RowKit

theorem rune_hi (r : Int) (h0 : 128 ≤ r) (h1 : r ≤ 1114111) : ∀ x ∈ Lib.encodeRuneZ r, 128 ≤ x ∧ x < 256 := by
  intro x hx
  unfold Lib.encodeRuneZ at hx
  repeat' split at hx
  all_goals (simp at hx; omega)

/-- A step is written as it is, or begins with a backslash. -/
theorem step_kind (p : Int → Bool) (h10 : p 10 = false) (l : List UInt8) (hne : l ≠ []) :
    (¬ bad l ∧ nb (qStep p l) = l.take (Lib.decodeL l).2 ∧ ∀ c ∈ l.take (Lib.decodeL l).2, c.toNat ≠ 34 ∧ c.toNat ≠ 92 ∧ c.toNat ≠ 10) ∨ ∃ b, nb (qStep p l) = 92 :: b := by
  by_cases hb : bad l
  · rw [qStep, if_pos hb]; exact .inr ⟨_, rfl⟩
  · rw [qStep, if_neg hb, escR]
    by_cases h1 : ((Lib.decodeL l).1 : Int) = 34 ∨ ((Lib.decodeL l).1 : Int) = 92
    · rw [if_pos h1]; exact .inr ⟨_, rfl⟩
    · rw [if_neg h1]
      by_cases hp : p ((Lib.decodeL l).1 : Int) = true
      · rw [if_pos hp]
        have hn10 : (Lib.decodeL l).1 ≠ 10 := fun h => by rw [h] at hp; rw [show ((10 : Nat) : Int) = 10 from rfl, h10] at hp; exact absurd hp (by decide)
        have henc : nb (Lib.encodeRuneZ ((Lib.decodeL l).1 : Int)) = l.take (Lib.decodeL l).2 := Lib.encode_decode l hne hb
        have hrb := Lib.decodeL_rune l
        refine .inl ⟨hb, henc, fun c hc => ?_⟩
        rw [← henc] at hc
        obtain ⟨z, hz, rfl⟩ := List.mem_map.1 hc
        by_cases h128 : (Lib.decodeL l).1 < 128
        · rw [Lib.encodeRuneZ_one (by omega) (by omega)] at hz
          rw [List.mem_singleton.1 hz, UInt8.toNat_ofNat']
          omega
        · have := rune_hi _ (by omega) (by omega) z hz
          rw [UInt8.toNat_ofNat']
          omega
      · rw [if_neg hp]
        unfold escT
        repeat' split
        all_goals exact .inr ⟨_, rfl⟩

theorem raw_or_esc (p : Int → Bool) (h10 : p 10 = false) : ∀ (f : Nat) (l : List UInt8), l.length ≤ f →
    (nb (qFrom p f l) = l ∧ (∀ c ∈ l, c.toNat ≠ 34 ∧ c.toNat ≠ 92 ∧ c.toNat ≠ 10) ∧ Lib.validD l = true) ∨ ∃ a b, nb (qFrom p f l) = a ++ 92 :: b ∧ ∀ c ∈ a, c.toNat ≠ 34
  | 0, l, h => by
    obtain rfl : l = [] := List.eq_nil_of_length_eq_zero (by omega)
    exact .inl ⟨rfl, fun c hc => by simp at hc, rfl⟩
  | f + 1, l, h => by
    by_cases hne : l = []
    · subst hne
      exact .inl ⟨by rw [qFrom_nil]; rfl, fun c hc => by simp at hc, rfl⟩
    · have hpos := decodeL_pos l
      have hle := Lib.decodeL_le l hne
      rw [qFrom_step p (f + 1) l hne h, nb_append, Nat.add_sub_cancel]
      rcases step_kind p h10 l hne with ⟨hb, hq, hc⟩ | ⟨b, hq⟩
      · rw [hq]
        rcases raw_or_esc p h10 f (l.drop (Lib.decodeL l).2) (by rw [List.length_drop]; omega) with ⟨h1, h2, h3⟩ | ⟨a, b, h1, h2⟩
        · refine .inl ⟨by rw [h1, List.take_append_drop], fun c hm => ?_, ?_⟩
          · rw [← List.take_append_drop (Lib.decodeL l).2 l] at hm
            rcases List.mem_append.1 hm with h4 | h4
            · exact hc c h4
            · exact h2 c h4
          · rw [Lib.validD_step l hne]; exact (if_neg hb).trans h3
        · refine .inr ⟨l.take (Lib.decodeL l).2 ++ a, b, by rw [h1, List.append_assoc], fun c hm => ?_⟩
          rcases List.mem_append.1 hm with h4 | h4
          · exact (hc c h4).1
          · exact h2 c h4
      · rw [hq]
        exact .inr ⟨[], b ++ nb (qFrom p f (l.drop (Lib.decodeL l).2)), rfl, fun c hc => by simp at hc⟩

theorem index_at (x : UInt8) : ∀ (a b : List UInt8), (∀ c ∈ a, c.toNat ≠ x.toNat) → Lib.indexByte (a ++ x :: b) x = (a.length : Int)
  | [], b, _ => by simp [Lib.indexByte]
  | c :: a, b, h => by
    have ih := index_at x a b (fun d hd => h d (by simp [hd]))
    have hc : (c == x) = false := by
      have := h c (by simp)
      simp only [beq_eq_false_iff_ne, ne_eq]
      exact fun he => this (by rw [he])
    rw [List.cons_append, Lib.indexByte, ih, hc]
    have h2 : ((a.length : Int) == -1) = false := by simp
    simp only [h2, Bool.false_eq_true, if_false, List.length_cons]
    omega
theorem index_no (x : UInt8) : ∀ (a : List UInt8), (∀ c ∈ a, c.toNat ≠ x.toNat) → Lib.indexByte a x = -1
  | [], _ => rfl
  | c :: a, h => by
    have ih := index_no x a (fun d hd => h d (by simp [hd]))
    have hc : (c == x) = false := by
      have := h c (by simp)
      simp only [beq_eq_false_iff_ne, ne_eq]
      exact fun he => this (by rw [he])
    rw [Lib.indexByte, ih, hc]
    simp

set_option maxHeartbeats 600000 in
set_option maxRecDepth 1000000 in
theorem unq_quick (une : Bool) (S S1 P M TT OUT : ByteArray) (n e : Nat) (hn : S.size = n) (hp : 2 ≤ n) (h0 : ∀ h : 0 < S.size, (S[0]'h).toNat = 34)
    (hS1 : S.extract 1 n = S1) (hP : S.extract 0 (e + 2) = P) (hPs : P.size = e + 2) (he : e + 2 ≤ n) (hM : S.extract 1 (e + 1) = M) (hM2 : P.extract 1 (e + 1) = M) (hTT : S.extract (e + 2) n = TT) (hidx : Lib.indexByte S1.data.toList (34 : Nat).toUInt8 = (e : Int)) (lim : n ≤ 1048576000)
    (hc : (Lib.indexByte P.data.toList (92 : Nat).toUInt8 != -1) = false) (hc2 : (Lib.indexByte P.data.toList (10 : Nat).toUInt8 != -1) = false) (hv : Lib.validD M.data.toList = true) (hO : OUT = if une then M else P) (w : World) (hU : Utf8Ok w) :
    Calls Tryd.prog 40 #[.string S, .bool une] w fun e w' => e = .returned (.tuple #[.string OUT, .string TT, .nilIface]) ∧ Below w.heap.size w w' := by
  have hc0 := h0 (by omega)
  have HI : Hid (∀ w, Calls Tryd.prog 54 #[.string S1, .int .u8 34] w fun e' w' => e' = .returned (.int .i64 e) ∧ w = w') := Lib.hid fun w => by
    have := index_any S1 34 w
    rwa [hidx] at this
  have HC : Hid (∀ w, Calls Tryd.prog 55 #[.string P, .int .u8 92] w fun e w' => e = .returned (.bool false) ∧ w = w') := Lib.hid fun w => by
    have := contains_any P 92 w
    rwa [hc] at this
  have HC2 : Hid (∀ w, Calls Tryd.prog 55 #[.string P, .int .u8 10] w fun e w' => e = .returned (.bool false) ∧ w = w') := Lib.hid fun w => by
    have := contains_any P 10 w
    rwa [hc2] at this
  have hMs : M.size ≤ 9223372036854775807 := by rw [← hM, ByteArray.size_extract]; omega
  have HV : Hid (Calls Tryd.prog 56 #[.string M] w fun e w' => e = .returned (.bool true) ∧ Below w.heap.size w w') := Lib.hid (by
    have := ValidString_any M w hMs (hU w (Below.refl _ _))
    rwa [hv] at this)
  have gn2 : decide ((n : Int) < 2) = false := by simp; omega
  have ge0 : decide ((e : Int) < 0) = false := by simp
  have e1 : (e : Int) + 2 - 1 = (e : Int) + 1 := by omega
  have t1 : ((e : Int) + 2).toNat = e + 2 := by omega
  have t2 : (0 : Int) ≤ (e : Int) + 2 := by omega
  have t3 : (e : Int) + 2 ≤ (n : Int) := by omega
  clear h0 hidx hc hc2 hv hU
  cases une
  · obtain rfl : OUT = P := hO
    go_enter Tryd.func40, Tryd.ntmps40
    go_big_wp2_with (first
      | (go_at_call 54; refine (HI.out _).mono ?_; rintro e w' ⟨rfl, rfl⟩)
      | (go_at_call 55; first | (refine (HC.out _).mono ?_; rintro e w' ⟨rfl, rfl⟩) | (refine (HC2.out _).mono ?_; rintro e w' ⟨rfl, rfl⟩))
      | (go_at_call 56; refine HV.out.mono ?_; rintro e w1 ⟨rfl, hw1⟩))
    go_quiet (fail)
    go_big_wp2
    go_ret3
    exact ⟨rfl, below_drewN hw1 _⟩
  · obtain rfl : OUT = M := hO
    go_enter Tryd.func40, Tryd.ntmps40
    go_big_wp2_with (first
      | (go_at_call 54; refine (HI.out _).mono ?_; rintro e w' ⟨rfl, rfl⟩)
      | (go_at_call 55; first | (refine (HC.out _).mono ?_; rintro e w' ⟨rfl, rfl⟩) | (refine (HC2.out _).mono ?_; rintro e w' ⟨rfl, rfl⟩))
      | (go_at_call 56; refine HV.out.mono ?_; rintro e w1 ⟨rfl, hw1⟩))
    go_quiet (fail)
    go_big_wp2
    go_ret3
    exact ⟨rfl, below_drewN hw1 _⟩
end Go.Proofs.YthjkpkkkjndjlaaDoor
