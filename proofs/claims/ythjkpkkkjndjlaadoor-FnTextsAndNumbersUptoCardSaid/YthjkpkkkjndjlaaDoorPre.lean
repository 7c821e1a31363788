/- QuotedPrefix and Unquote at a quoted text; the three forms of quoting; quoted texts one behind the other. -/
import Derived.Test.YthjkpkkkjndjlaaDoorUnqA
import Derived.Test.YthjkpkkkjndjlaaDoorScript
namespace Go.Proofs.YthjkpkkkjndjlaaDoor
open Go.RowKit

/-- What a form of quoting must have to be read back. -/
structure FormOk (p : Int → Bool) : Prop where
  lat : ∀ r : Int, 32 ≤ r → r < 127 → p r = true
  nl : p 10 = false

abbrev pG : Int → Bool := pr Lib.goPrintTabs grTab false true
theorem print_lat {r : Int} (h0 : 32 ≤ r) (h1 : r < 127) : Lib.isPrintR Lib.goPrintTabs r = true := by
  have a : r ≤ 255 := by omega
  simp only [Lib.isPrintR, if_pos a, Lib.isPrintLatin]
  simp; omega
theorem print_nl : Lib.isPrintR Lib.goPrintTabs 10 = false := by
  have a : (10 : Int) ≤ 255 := by omega
  simp only [Lib.isPrintR, if_pos a, Lib.isPrintLatin]
  simp
theorem okQ : FormOk pQ := ⟨fun r h0 h1 => by simp [pr, print_lat h0 h1], by simp [pr, print_nl]⟩
theorem okA : FormOk pA := ⟨fun r h0 h1 => by simp [pr, print_lat h0 h1]; omega, by simp [pr, print_nl]⟩
theorem inG_nl : inG grTab 10 = false := by kernel_rfl
theorem okG : FormOk pG := ⟨fun r h0 h1 => by simp [pr, print_lat h0 h1], by simp [pr, print_nl, inG_nl]⟩

theorem sQuotedPrefix_any (p : Int → Bool) (hp : FormOk p) (l t : List UInt8) (lim : 10 * l.length + t.length + 2 ≤ 1048576000) (w : World) (hU : Utf8Ok w) :
    Calls Tryd.prog 30 #[.string (bs (nb (qZ p l) ++ t))] w fun e w' => e = .returned (.tuple #[.string (bs (nb (qZ p l))), .nilIface]) ∧ Below w.heap.size w w' := by
  have c := unquote_any p hp.lat hp.nl false l t lim w hU
  simp only [Bool.false_eq_true, if_false] at c
  have C := Lib.hid c
  generalize bs (nb (qZ p l) ++ t) = S at *
  generalize bs (nb (qZ p l)) = Q at *
  generalize bs t = R at *
  clear c hU
  go_enter Tryd.func30, Tryd.ntmps30
  go_wp2_with (go_at_call 40; refine C.out.mono ?_; rintro e w1 ⟨rfl, hb⟩)
  go_ret2
  exact ⟨rfl, hb⟩
theorem QuotedPrefix_any (p : Int → Bool) (hp : FormOk p) (l t : List UInt8) (lim : 10 * l.length + t.length + 2 ≤ 1048576000) (w : World) (hU : Utf8Ok w) :
    Calls Tryd.prog 19 #[.string (bs (nb (qZ p l) ++ t))] w fun e w' => e = .returned (.tuple #[.string (bs (nb (qZ p l))), .bool true]) ∧ Below w.heap.size w w' := by
  have c := sQuotedPrefix_any p hp l t lim w hU
  have C := Lib.hid c
  generalize bs (nb (qZ p l) ++ t) = S at *
  generalize bs (nb (qZ p l)) = Q at *
  clear c hU
  go_enter Tryd.func19, Tryd.ntmps19
  go_wp2_with (go_at_call 30; refine C.out.mono ?_; rintro e w1 ⟨rfl, hb⟩)
  go_quiet (fail)
  go_wp2
  go_ret2
  exact ⟨rfl, below_drewN hb _⟩
theorem sUnquote_any (p : Int → Bool) (hp : FormOk p) (l : List UInt8) (lim : 10 * l.length + 2 ≤ 1048576000) (w : World) (hU : Utf8Ok w) :
    Calls Tryd.prog 27 #[.string (bs (nb (qZ p l)))] w fun e w' => e = .returned (.tuple #[.string (bs l), .nilIface]) ∧ Below w.heap.size w w' := by
  have c := unquote_any p hp.lat hp.nl true l [] (by simpa using lim) w hU
  simp only [List.append_nil, if_true] at c
  have C := Lib.hid c
  generalize bs (nb (qZ p l)) = Q at *
  have h0 : (bs []).size = 0 := rfl
  generalize bs [] = R at *
  clear c hU
  go_enter Tryd.func27, Tryd.ntmps27
  go_wp2_with (go_at_call 40; refine C.out.mono ?_; rintro e w1 ⟨rfl, hb⟩)
  go_ret2
  exact ⟨rfl, hb⟩
theorem Unquote_any (p : Int → Bool) (hp : FormOk p) (l : List UInt8) (lim : 10 * l.length + 2 ≤ 1048576000) (w : World) (hU : Utf8Ok w) :
    Calls Tryd.prog 17 #[.string (bs (nb (qZ p l)))] w fun e w' => e = .returned (.tuple #[.string (bs l), .bool true]) ∧ Below w.heap.size w w' := by
  have c := sUnquote_any p hp l lim w hU
  have C := Lib.hid c
  generalize bs (nb (qZ p l)) = Q at *
  clear c hU
  go_enter Tryd.func17, Tryd.ntmps17
  go_wp2_with (go_at_call 27; refine C.out.mono ?_; rintro e w1 ⟨rfl, hb⟩)
  go_quiet (fail)
  go_wp2
  go_ret2
  exact ⟨rfl, below_drewN hb _⟩

/-- The quoted texts from the i-th on, n of them, one behind the other. -/
def catQ (P : Nat → Int → Bool) (T : List ByteArray) (i n : Nat) : List UInt8 := ((List.range' i n).map fun k => nb (qZ (P k) (T.getD k ByteArray.empty).data.toList)).flatten
theorem catQ_zero (P : Nat → Int → Bool) (T : List ByteArray) (i : Nat) : catQ P T i 0 = [] := rfl
theorem catQ_snoc (P : Nat → Int → Bool) (T : List ByteArray) (j : Nat) (h : j < T.length) : catQ P T 0 (j + 1) = catQ P T 0 j ++ nb (qZ (P j) (T[j]'h).data.toList) := by
  simp [catQ, List.range'_concat, List.getD, h]
theorem catQ_cons (P : Nat → Int → Bool) (T : List ByteArray) (j n : Nat) (h : j < T.length) : catQ P T j (n + 1) = nb (qZ (P j) (T[j]'h).data.toList) ++ catQ P T (j + 1) n := by
  simp [catQ, List.range'_succ, List.getD, h]
theorem catQ_len (P : Nat → Int → Bool) (T : List ByteArray) : ∀ j, j ≤ T.length → 2 * j ≤ (catQ P T 0 j).length ∧ (catQ P T 0 j).length ≤ 10 * bulkT (T.take j)
  | 0, _ => by simp [catQ_zero]
  | j + 1, h => by
    have ih := catQ_len P T j (by omega)
    have h1 := qZ_len (P j) (T[j]'h).data.toList
    have h2 : 2 ≤ (qZ (P j) (T[j]'h).data.toList).length := by simp [qZ]
    have h3 : (T[j]'h).data.toList.length = (T[j]'h).size := Array.length_toList
    rw [catQ_snoc P T j h, bulk_take T j h, List.length_append]
    simp only [nb, List.length_map]
    omega
theorem catQ_split (P : Nat → Int → Bool) (T : List ByteArray) (j n : Nat) (h : j ≤ n) : catQ P T 0 n = catQ P T 0 j ++ catQ P T j (n - j) := by
  have e : List.range' 0 n = List.range' 0 j ++ List.range' j (n - j) := by
    have := List.range'_append (s := 0) (m := j) (n := n - j) (step := 1)
    rw [show 0 + 1 * j = j by omega, show j + (n - j) = n by omega] at this
    exact this.symm
  simp only [catQ, e, List.map_append, List.flatten_append]
theorem catQ_tail (P : Nat → Int → Bool) (T : List ByteArray) (j : Nat) (h : j ≤ T.length) : (catQ P T j (T.length - j)).length ≤ 10 * bulkT T := by
  have h1 := catQ_split P T j T.length h
  have h2 := catQ_len P T T.length (Nat.le_refl _)
  rw [List.take_length] at h2
  rw [h1, List.length_append] at h2
  omega

end Go.Proofs.YthjkpkkkjndjlaaDoor
