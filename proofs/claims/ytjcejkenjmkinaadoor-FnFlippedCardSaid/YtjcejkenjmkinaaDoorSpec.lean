/- The reference's Digit, and Text at a single digit. -/
import Derived.Test.YtjcejkenjmkinaaDoorEnv
import Derived.BigQuiet
import Derived.Deep.QuietTactic
import Derived.Laws.AppendOwn
namespace Go.Proofs.YtjcejkenjmkinaaDoor
open Go.RowKit

theorem Digit_num (n : Int) (w : World) (h1 : 48 ≤ n) (h2 : n ≤ 57) :
    Calls Tryd.prog 12 #[.int .u8 n] w fun e w' => e = .returned (.int .i64 (n - 48)) ∧ w = w' := by
  go_enter Tryd.func12, Tryd.ntmps12
  go_wp2
  go_ret
  exact ⟨rfl, rfl⟩
theorem Digit_low (n : Int) (w : World) (h1 : 97 ≤ n) (h2 : n ≤ 122) :
    Calls Tryd.prog 12 #[.int .u8 n] w fun e w' => e = .returned (.int .i64 (n - 97 + 10)) ∧ w = w' := by
  go_enter Tryd.func12, Tryd.ntmps12
  go_wp2
  go_ret
  exact ⟨rfl, rfl⟩
theorem Digit_dch (d : Nat) (hd : d < 36) (n : Int) (hn : n = ((dch d).toNat : Int)) (w : World) :
    Calls Tryd.prog 12 #[.int .u8 n] w fun e w' => e = .returned (.int .i64 d) ∧ w = w' := by
  rw [dch_toNat hd] at hn
  by_cases h : d < 10
  · rw [if_pos h] at hn
    have := Digit_num n w (by omega) (by omega)
    rwa [show n - 48 = (d : Int) by omega] at this
  · rw [if_neg h] at hn
    have := Digit_low n w (by omega) (by omega)
    rwa [show n - 97 + 10 = (d : Int) by omega] at this

/-- The reference's Digit of a byte. -/
def dval (c : UInt8) : Int := if 48 ≤ c.toNat ∧ c.toNat ≤ 57 then (c.toNat : Int) - 48 else if 97 ≤ c.toNat ∧ c.toNat ≤ 122 then (c.toNat : Int) - 97 + 10 else if 65 ≤ c.toNat ∧ c.toNat ≤ 90 then (c.toNat : Int) - 65 + 10 else -1
theorem dval_dch {d : Nat} (hd : d < 36) : dval (dch d) = (d : Int) := by
  have h := dch_toNat hd
  unfold dval
  rw [h]
  by_cases h1 : d < 10
  · rw [if_pos h1, if_pos (by omega)]; omega
  · rw [if_neg h1, if_neg (by omega), if_pos (by omega)]; omega
theorem Digit_great (n : Int) (w : World) (h1 : 65 ≤ n) (h2 : n ≤ 90) :
    Calls Tryd.prog 12 #[.int .u8 n] w fun e w' => e = .returned (.int .i64 (n - 65 + 10)) ∧ w = w' := by
  go_enter Tryd.func12, Tryd.ntmps12
  go_wp2
  go_ret
  exact ⟨rfl, rfl⟩
theorem Digit_not (n : Int) (w : World) (h0 : 0 ≤ n) (h256 : n < 256) (h1 : n < 48 ∨ 57 < n) (h2 : n < 97 ∨ 122 < n) (h3 : n < 65 ∨ 90 < n) :
    Calls Tryd.prog 12 #[.int .u8 n] w fun e w' => e = .returned (.int .i64 (-1)) ∧ w = w' := by
  rcases h1 with h1 | h1 <;> rcases h2 with h2 | h2 <;> rcases h3 with h3 | h3 <;> first
    | omega
    | (go_enter Tryd.func12, Tryd.ntmps12
       go_wp2
       go_ret
       exact ⟨rfl, rfl⟩)
/-- spec.Digit at every byte. -/
theorem Digit_any (c : UInt8) (w : World) :
    Calls Tryd.prog 12 #[.int .u8 (c.toNat : Int)] w fun e w' => e = .returned (.int .i64 (dval c)) ∧ w = w' := by
  have hc : c.toNat < 256 := c.toNat_lt
  unfold dval
  by_cases h1 : 48 ≤ c.toNat ∧ c.toNat ≤ 57
  · rw [if_pos h1]; exact Digit_num _ w (by omega) (by omega)
  · rw [if_neg h1]
    by_cases h2 : 97 ≤ c.toNat ∧ c.toNat ≤ 122
    · rw [if_pos h2]; exact Digit_low _ w (by omega) (by omega)
    · rw [if_neg h2]
      by_cases h3 : 65 ≤ c.toNat ∧ c.toNat ≤ 90
      · rw [if_pos h3]; exact Digit_great _ w (by omega) (by omega)
      · rw [if_neg h3]; exact Digit_not _ w (by omega) (by omega) (by omega) (by omega) (by omega)

/-- A callee that leaves the world alone, inside a region that draws its order. -/
theorem quiet_left {P : Program} {f : FuncId} {args : Array Value} {w : World} {n : Nat} {v : Value}
    (h : Calls P f args (w.drewN n) fun e w' => e = .returned v ∧ w.drewN n = w') : Calls P f args (w.drewN n) fun e w'' => e = .returned v ∧ ∃ m, w'' = w.drewN m :=
  h.mono fun _ _ ⟨he, hm⟩ => ⟨he, n, hm.symm⟩

theorem text_get (b u k : Nat) (h : k < (digs b u).length) : (text b u)[k]'(by rw [text_len]; exact h) = dch (digs b u)[k] := by simp [text]
theorem str_get (b u k : Nat) (h : k < (str b u).size) : (str b u)[k] = dch ((digs b u)[k]'(by rw [← str_size]; exact h)) := by
  have : (str b u)[k] = (text b u)[k]'(by rw [text_len, ← str_size]; exact h) := rfl
  rw [this, text_get]
theorem str_toList (b u : Nat) : (str b u).toList = text b u := by
  rw [ByteArray.toList_eq]
  simp [str]
theorem str_ne (b u : Nat) : (str b u).toList.isEmpty = false := by
  rw [str_toList]
  have h := digs_pos b u
  rw [← text_len] at h
  cases e : text b u with
  | nil => rw [e] at h; simp at h
  | cons a l => rfl
end Go.Proofs.YtjcejkenjmkinaaDoor
