/- strconv.appendQuotedRuneWith, quoteRuneWith, QuoteRuneToASCII, impl.QuoteRuneToASCII, at a valid character from 128 on. -/
import Derived.Test.YthjkpkkkjndjlaaDoorEscR
import Derived.Laws.BytesArg
import Derived.Shelf.Strconv.Quote
namespace Go.Proofs.YthjkpkkkjndjlaaDoor
open Go.RowKit

/-- The escape of a character from 128 on. -/
def escHi (r : Int) : List Int := if r < 65536 then 92 :: 117 :: Lib.hexDigits r.toNat 4 else 92 :: 85 :: Lib.hexDigits r.toNat 8
theorem escR_hi (B : Nat) (v : Value) (n : Nat) (xs : List Value) (r : Int) (W0 w : World)
    (hb : Lib.OwnBuf B 5 v n xs W0 w) (hlen : n + 10 ≤ 140737488355328) (h80 : 128 ≤ r) (hv : Lib.validRune r = true) :
    Calls Tryd.prog 68 #[v, .int .i32 r, .int .u8 39, .bool true, .bool false] w fun e w' => ∃ v', e = .returned v' ∧ Lib.OwnBuf B 5 v' (n + (escHi r).length) (xs ++ Lib.intCells (escHi r)) W0 w' := by
  have hr : 0 ≤ r ∧ r ≤ 1114111 := by
    have := hv; simp [Lib.validRune] at this; omega
  unfold escHi
  by_cases h : r < 65536
  · rw [if_pos h]; exact escR_u4 B v n xs r W0 w hb hlen hr.1 hr.2 h80 h hv
  · rw [if_neg h]; exact escR_u8 B v n xs r W0 w hb hlen hr.1 hr.2 (by omega) hv
theorem escHi_len (r : Int) : (escHi r).length ≤ 10 := by
  unfold escHi
  split <;> simp [Lib.hexDigits]

set_option maxRecDepth 100000 in
theorem appendQuotedRune_hi (r : Int) (w : World) (h80 : 128 ≤ r) (hv : Lib.validRune r = true) :
    Calls Tryd.prog 67 #[.slice none 0 0, .int .i32 r, .int .u8 39, .bool true, .bool false] w (BufPost w.heap.size w (Lib.intCells (39 :: (escHi r ++ [39])))) := by
  obtain ⟨i0, hi, hz0, hz1, hz2⟩ := info_parts infoU8
  have hb : Lib.OwnBuf w.heap.size 5 (.slice none 0 0) 0 [] w w := ⟨World.ownsRowF_of (World.ownsRow_nil w _ _ _), Below.refl _ _, Nat.le_refl _⟩
  obtain ⟨B, hB⟩ : ∃ B, B = w.heap.size := ⟨_, rfl⟩
  rw [← hB] at hb ⊢
  have HB := Lib.hid hB
  have hl := escHi_len r
  have cV : ∀ W : World, Calls Tryd.prog 78 #[.int .i32 r] W fun e w' => e = .returned (.bool true) ∧ w' = W := fun W => by
    rw [← hv]; exact Tryd.utf8_ValidRune r W
  have CV := Lib.hid cV
  have HV := Lib.hid hv
  clear cV hv hB
  go_enter Tryd.func67, Tryd.ntmps67
  go_wp2_with (first
    | (go_at_call 78; refine (CV.out _).mono ?_; rintro e w2 ⟨rfl, rfl⟩)
    | (go_at_call 68; refine (escR_hi B _ _ _ r w _ (by assumption) (by omega) h80 HV.out).mono ?_; rintro e w3 ⟨v3, rfl, hb3⟩)
    | (at_builtin; refine Lib.wpList_append_byte rfl _ _ 40 rfl B 5 i0 Tryd.underlying40 hi hz0 hz1 hz2 _ _ _ rfl w _ _ (by assumption) rfl (by omega) ?_; intro _ _ hb))
  go_ret
  refine ⟨_, rfl, ?_⟩
  have e1 : (Lib.intCells (39 :: (escHi r ++ [39]))).length = 0 + 1 + (escHi r).length + 1 := by simp [Lib.intCells]; omega
  rw [e1]
  have e2 : Lib.intCells (39 :: (escHi r ++ [39])) = [] ++ [Value.int .u8 39] ++ Lib.intCells (escHi r) ++ [Value.int .u8 39] := by simp [Lib.intCells]
  rw [e2]
  exact hb

/-- A buffer of at least one byte, made a string. -/
theorem buf_string {B : Nat} {v : Value} {l : List Int} {W0 w : World} (h : Lib.OwnBuf B 5 v (Lib.intCells l).length (Lib.intCells l) W0 w) (hl : 0 < l.length) :
    (convert 40 9 v).run Tryd.prog w = .ok (.string (strOfNums l)) w := by
  have h' : Lib.OwnBuf B 5 v (0 + l.length) ([] ++ Lib.intCells l) W0 w := by
    have e : (Lib.intCells l).length = 0 + l.length := by simp [Lib.intCells]
    rw [← e]; exact h
  obtain ⟨g, cap, rfl, hcells⟩ := buf_cells h' hl
  exact run_convert_bytes_arg w 40 5 Tryd.underlying40 Tryd.underlying5 g 0 _ cap l rfl hcells 9 Tryd.underlying9

theorem quoteRuneWith_hi (r : Int) (w : World) (h80 : 128 ≤ r) (hv : Lib.validRune r = true) :
    Calls Tryd.prog 45 #[.int .i32 r, .int .u8 39, .bool true, .bool false] w fun e w' => e = .returned (.string (strOfNums (39 :: (escHi r ++ [39])))) ∧ Below w.heap.size w w' := by
  have c := appendQuotedRune_hi r w h80 hv
  have C := Lib.hid c
  clear c
  go_enter Tryd.func45, Tryd.ntmps45
  go_wp2_with (go_at_call 67; refine C.out.mono ?_; rintro e w1 ⟨v1, rfl, hb⟩; refine Hid.out ?_)
  refine Lib.hid ?_
  have hcv := buf_string hb (by simp)
  have hbel := hb.2.1
  clear hb
  go_wp2
  go_ret
  exact ⟨rfl, hbel⟩
theorem sQuoteRune_hi (r : Int) (w : World) (h80 : 128 ≤ r) (hv : Lib.validRune r = true) :
    Calls Tryd.prog 32 #[.int .i32 r] w fun e w' => e = .returned (.string (strOfNums (39 :: (escHi r ++ [39])))) ∧ Below w.heap.size w w' := by
  go_enter Tryd.func32, Tryd.ntmps32
  go_wp2_with (go_at_call 45; refine (quoteRuneWith_hi r _ h80 hv).mono ?_; rintro e w1 ⟨rfl, hb⟩)
  go_ret
  exact ⟨rfl, hb⟩
theorem QuoteRune_hi (r : Int) (w : World) (h80 : 128 ≤ r) (hv : Lib.validRune r = true) :
    Calls Tryd.prog 21 #[.int .i32 r] w fun e w' => e = .returned (.string (strOfNums (39 :: (escHi r ++ [39])))) ∧ Below w.heap.size w w' := by
  go_enter Tryd.func21, Tryd.ntmps21
  go_wp2_with (go_at_call 32; refine (sQuoteRune_hi r _ h80 hv).mono ?_; rintro e w1 ⟨rfl, hb⟩)
  go_ret
  exact ⟨rfl, hb⟩
end Go.Proofs.YthjkpkkkjndjlaaDoor
