/- The reference's Digit, and Text at a single digit. -/
import Derived.Test.YtjcejkenjmkinaaDoorEnv
import Derived.BigQuiet
import Derived.Deep.QuietTactic
import Derived.Laws.AppendOwn
namespace Go.Proofs.YtjcejkenjmkinaaDoor
open Go.RowKit

theorem Digit_num (n : Int) (w : World) (h1 : 48 ≤ n) (h2 : n ≤ 57) :
    Calls Tryd.prog 12 #[.int .u8 n] w fun e w' => e = .returned (.int .i64 (n - 48)) ∧ w = w' := by
  go_enter Tryd.func12, Tryd.ntmps12
  go_wp2
  go_ret
  exact ⟨rfl, rfl⟩
theorem Digit_low (n : Int) (w : World) (h1 : 97 ≤ n) (h2 : n ≤ 122) :
    Calls Tryd.prog 12 #[.int .u8 n] w fun e w' => e = .returned (.int .i64 (n - 97 + 10)) ∧ w = w' := by
  go_enter Tryd.func12, Tryd.ntmps12
  go_wp2
  go_ret
  exact ⟨rfl, rfl⟩
theorem Digit_dch (d : Nat) (hd : d < 36) (n : Int) (hn : n = ((dch d).toNat : Int)) (w : World) :
    Calls Tryd.prog 12 #[.int .u8 n] w fun e w' => e = .returned (.int .i64 d) ∧ w = w' := by
  rw [dch_toNat hd] at hn
  by_cases h : d < 10
  · rw [if_pos h] at hn
    have := Digit_num n w (by omega) (by omega)
    rwa [show n - 48 = (d : Int) by omega] at this
  · rw [if_neg h] at hn
    have := Digit_low n w (by omega) (by omega)
    rwa [show n - 97 + 10 = (d : Int) by omega] at this

theorem text_get (b u k : Nat) (h : k < (digs b u).length) : (text b u)[k]'(by rw [text_len]; exact h) = dch (digs b u)[k] := by simp [text]
theorem str_get (b u k : Nat) (h : k < (str b u).size) : (str b u)[k] = dch ((digs b u)[k]'(by rw [← str_size]; exact h)) := by
  have : (str b u)[k] = (text b u)[k]'(by rw [text_len, ← str_size]; exact h) := rfl
  rw [this, text_get]
theorem str_toList (b u : Nat) : (str b u).toList = text b u := by
  rw [ByteArray.toList_eq]
  simp [str]
theorem str_ne (b u : Nat) : (str b u).toList.isEmpty = false := by
  rw [str_toList]
  have h := digs_pos b u
  rw [← text_len] at h
  cases e : text b u with
  | nil => rw [e] at h; simp at h
  | cons a l => rfl
end Go.Proofs.YtjcejkenjmkinaaDoor
