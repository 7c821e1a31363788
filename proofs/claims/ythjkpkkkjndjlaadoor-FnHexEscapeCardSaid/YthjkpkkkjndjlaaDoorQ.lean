/- Plain mathematics, no program: what quoting appends for a character, and for a text. -/
import Derived.Lib.QuoteLoop
import Derived.Lib.MapLaws
import Derived.Lib.ValidLaws
namespace Go.Proofs.YthjkpkkkjndjlaaDoor
open Go

/-- Is r on the list of graphic characters? -/
def inG (G : List Nat) (r : Int) : Bool := decide (r ≤ 65535) && Lib.bsearchFound G r.toNat
/-- Is r written as it is? -/
def pr (T : Lib.PrintTabs) (G : List Nat) (asc gr : Bool) (r : Int) : Bool :=
  if asc then decide (r < 128) && Lib.isPrintR T r else Lib.isPrintR T r || (gr && inG G r)
/-- What is appended for a character that is not written as it is. -/
def escT (r : Int) : List Int :=
  if r = 7 then [92, 97] else if r = 8 then [92, 98] else if r = 12 then [92, 102] else if r = 10 then [92, 110]
  else if r = 13 then [92, 114] else if r = 9 then [92, 116] else if r = 11 then [92, 118]
  else if r < 32 ∨ r = 127 then [92, 120, Lib.hexDigit (r.toNat / 16), Lib.hexDigit (r.toNat % 16)]
  else if r < 65536 then 92 :: 117 :: Lib.hexDigits r.toNat 4
  else 92 :: 85 :: Lib.hexDigits r.toNat 8
/-- What is appended for a character. -/
def escR (p : Int → Bool) (q r : Int) : List Int :=
  if r = q ∨ r = 92 then [92, r] else if p r = true then Lib.encodeRuneZ r else escT r
end Go.Proofs.YthjkpkkkjndjlaaDoor
