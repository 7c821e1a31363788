/- Plain mathematics, no program: what quoting appends for a character, and for a text. -/
import Derived.Lib.QuoteLoop
import Derived.Lib.MapLaws
import Derived.Lib.ValidLaws
namespace Go.Proofs.YthjkpkkkjndjlaaDoor
open Go

/-- Is r on the list of graphic characters? -/
def inG (G : List Nat) (r : Int) : Bool := decide (r ≤ 65535) && Lib.bsearchFound G r.toNat
/-- Is r written as it is? -/
def pr (T : Lib.PrintTabs) (G : List Nat) (asc gr : Bool) (r : Int) : Bool :=
  if asc then decide (r < 128) && Lib.isPrintR T r else Lib.isPrintR T r || (gr && inG G r)
/-- What is appended for a character that is not written as it is. -/
def escT (r : Int) : List Int :=
  if r = 7 then [92, 97] else if r = 8 then [92, 98] else if r = 12 then [92, 102] else if r = 10 then [92, 110]
  else if r = 13 then [92, 114] else if r = 9 then [92, 116] else if r = 11 then [92, 118]
  else if r < 32 ∨ r = 127 then [92, 120, Lib.hexDigit (r.toNat / 16), Lib.hexDigit (r.toNat % 16)]
  else if r < 65536 then 92 :: 117 :: Lib.hexDigits r.toNat 4
  else 92 :: 85 :: Lib.hexDigits r.toNat 8
/-- What is appended for a character. -/
def escR (p : Int → Bool) (q r : Int) : List Int :=
  if r = q ∨ r = 92 then [92, r] else if p r = true then Lib.encodeRuneZ r else escT r

theorem hexDigits_len (r : Nat) : ∀ n, (Lib.hexDigits r n).length = n
  | 0 => rfl
  | n + 1 => by rw [Lib.hexDigits, List.length_cons, hexDigits_len r n]
theorem escT_len (r : Int) : (escT r).length ≤ 10 := by
  unfold escT
  repeat' split
  all_goals simp [hexDigits_len]
theorem escR_len (p : Int → Bool) (q r : Int) : (escR p q r).length ≤ 10 := by
  unfold escR
  split
  · simp
  split
  · have := Lib.encodeRuneZ_length_le r; omega
  · exact escT_len r
theorem escR_pos (p : Int → Bool) (q r : Int) : 1 ≤ (escR p q r).length := by
  unfold escR
  split
  · simp
  split
  · exact (Lib.encodeRuneZ_length r).1
  · unfold escT
    repeat' split
    all_goals simp

/-- Is what the text begins with no UTF-8? -/
def bad (l : List UInt8) : Prop := (Lib.decodeL l).1 = 65533 ∧ (Lib.decodeL l).2 = 1
instance (l : List UInt8) : Decidable (bad l) := inferInstanceAs (Decidable (_ ∧ _))
/-- One round of quoting. -/
def qStep (p : Int → Bool) (l : List UInt8) : List Int :=
  if bad l then [92, 120, Lib.hexDigit ((l.getD 0 0).toNat / 16), Lib.hexDigit ((l.getD 0 0).toNat % 16)] else escR p 34 ((Lib.decodeL l).1 : Int)
def qFrom (p : Int → Bool) : Nat → List UInt8 → List Int
  | 0, _ => []
  | f + 1, l => if l = [] then [] else qStep p l ++ qFrom p f (l.drop (Lib.decodeL l).2)
/-- The quoted text. -/
def qZ (p : Int → Bool) (l : List UInt8) : List Int := 34 :: (qFrom p l.length l ++ [34])

theorem qStep_len (p : Int → Bool) (l : List UInt8) : (qStep p l).length ≤ 10 := by
  unfold qStep
  split
  · simp
  · exact escR_len _ _ _
theorem qStep_pos (p : Int → Bool) (l : List UInt8) : 1 ≤ (qStep p l).length := by
  unfold qStep
  split
  · simp
  · exact escR_pos _ _ _
theorem decodeL_pos (l : List UInt8) : 1 ≤ (Lib.decodeL l).2 := Lib.width_pos _ _
theorem decodeL_valid (l : List UInt8) : Lib.validRune ((Lib.decodeL l).1 : Int) = true := Lib.rune_valid _
theorem qFrom_step (p : Int → Bool) (f : Nat) (l : List UInt8) (h0 : l ≠ []) (hf : l.length ≤ f) : qFrom p f l = qStep p l ++ qFrom p (f - 1) (l.drop (Lib.decodeL l).2) := by
  cases f with
  | zero => exact absurd (List.length_eq_zero_iff.1 (by omega)) h0
  | succ f => rw [qFrom, if_neg h0]; rfl
theorem qFrom_nil (p : Int → Bool) (f : Nat) : qFrom p f [] = [] := by cases f <;> simp [qFrom]
theorem qFrom_len (p : Int → Bool) : ∀ (f : Nat) (l : List UInt8), (qFrom p f l).length ≤ 10 * l.length
  | 0, _ => by simp [qFrom]
  | f + 1, l => by
    unfold qFrom
    split
    · simp
    · rename_i h0
      have h1 := qStep_len p l
      have h2 := qFrom_len p f (l.drop (Lib.decodeL l).2)
      have h4 := decodeL_pos l
      have h5 := Lib.decodeL_le l h0
      simp only [List.length_append, List.length_drop] at *
      omega
theorem qZ_len (p : Int → Bool) (l : List UInt8) : (qZ p l).length ≤ 10 * l.length + 2 := by
  have := qFrom_len p l.length l
  simp only [qZ, List.length_cons, List.length_append, List.length_nil]
  omega
end Go.Proofs.YthjkpkkkjndjlaaDoor
