/- internal/strconv.FormatInt, strconv.FormatInt, impl.FormatInt: the text of a number with its sign in every base from 2 to 36. -/
import Derived.Test.YtenepfefpoiddaaDoorForm
namespace Go.Proofs.YtenepfefpoiddaaDoor
open Go.RowKit Go.Lib

/-- The text of a number with its sign. -/
def itext (b : Nat) (n : Int) : List UInt8 := if n < 0 then 45 :: text b n.natAbs else text b n.natAbs
def istr (b : Nat) (n : Int) : ByteArray := bs (itext b n)
theorem itext_neg {b : Nat} {n : Int} (h : n < 0) : itext b n = 45 :: text b n.natAbs := if_pos h
theorem itext_pos {b : Nat} {n : Int} (h : 0 ≤ n) : itext b n = text b n.natAbs := if_neg (by omega)
theorem istr_pos {b : Nat} {n : Int} (h : 0 ≤ n) : istr b n = str b n.natAbs := by rw [istr, itext_pos h]; rfl
theorem istr_neg {b : Nat} {n : Int} (h : n < 0) : istr b n = bs [45] ++ str b n.natAbs := by rw [istr, itext_neg h, str_bs, bs_append]; rfl
theorem itoa_istr (n : Int) : (⟨(Lib.itoa n).toArray⟩ : ByteArray) = istr 10 n := by
  rw [Lib.itoa, istr, itext, decDigits_text, decDigits_text]
  by_cases h : n < 0
  · rw [if_pos h, if_pos h]; rfl
  · rw [if_neg h, if_neg h, show n.toNat = n.natAbs by omega]; rfl

theorem at_some_set {cs : Array Value} {i j : Nat} (X : Value) (h : i < cs.size) : ∃ c, (cs.setIfInBounds j X)[i]? = some c := by
  have h2 : i < (cs.setIfInBounds j X).size := by simpa using h
  exact ⟨_, Array.getElem?_eq_getElem h2⟩

theorem FbInv.lastNeg {b u i v : Nat} {cs : Array Value} (h : FbInv b u (i + 1 + 1) v cs) (hv : v < b) :
    (45 :: text b u).length + i = 65 ∧ ∀ j (_ : j < (45 :: text b u).length), ((cs.setIfInBounds (i + 1) (.int .u8 ((dch v).toNat : Int))).setIfInBounds i (.int .u8 45))[i + j]? = some (.int .u8 ((45 :: text b u)[j].toNat : Int)) := by
  have hsz := h.size
  obtain ⟨h1, h2⟩ := h.last hv
  refine ⟨by simp; omega, fun j hj => ?_⟩
  rw [Array.getElem?_setIfInBounds]
  cases j with
  | zero =>
    rw [if_pos (by omega), if_pos (by simp [hsz]; omega)]
    rfl
  | succ j =>
    rw [if_neg (by omega)]
    have := h2 j (by simpa using hj)
    rw [show i + 1 + j = i + (j + 1) by omega] at this
    simpa using this

set_option maxHeartbeats 2000000 in
set_option maxRecDepth 100000 in
theorem formatBits_genN (b u U : Nat) (w : World) (hb : 2 ≤ b) (hb2 : b ≤ 36) (hb10 : b ≠ 10) (hu : u < 18446744073709551616) (hneg : IntKind.u64.wrap (-(U : Int)) = (u : Int))
    (hp : ∀ w, Calls Tryd.prog 71 #[.int .i64 b] w fun e w' => e = .returned (.bool false) ∧ w = w') :
    Calls Tryd.prog 59 #[.slice none 0 0, .int .u64 U, .int .i64 b, .bool true, .bool false] w fun e w' =>
      e = .returned (.tuple #[.slice none 0 0, .string (bs (45 :: text b u))]) ∧ Below w.heap.size w w' := by
  have HP := Lib.hid hp
  clear hp
  have h10 : ((b : Int) == 10) = false := by simp; omega
  have h2 : decide ((b : Int) < 2) = false := by simp; omega
  have h36 : decide (36 < (b : Int)) = false := by simp; omega
  have hz := zero65
  go_enter Tryd.func59, Tryd.ntmps59
  go_name_bytes_deep 38 PS hPS
  clear hPS
  go_name_bytes_deep 30 DG hDG
  have eDG : DG = Lib.digits36 := by rw [← hDG]; decide +kernel
  subst eDG
  clear hDG
  go_wp2_with (go_at_call 71; refine (HP.out _).mono ?_; rintro e w' ⟨rfl, rfl⟩)
  go_loopw [1, 13, 18] (fun vu vi _ wr => ∃ (i v : Nat) (cs : Array Value), vu = .int .u64 v ∧ vi = .int .i64 i ∧ wr = w.alloc (.cells cs 89) ∧ Hid (FbInv b u i v cs)) (fun vu _ _ _ => (RowKit.intOf vu).toNat)
  case atStart => exact ⟨65, u, zeros65, by first | rfl | rw [hneg], rfl, rfl, FbInv.start b u⟩
  case round =>
    clear hneg
    obtain ⟨i, v, cs, rfl, rfl, rfl, HI⟩ := hrel
    have hi := HI.out.le
    have hvu : v ≤ u := by
      have := HI.out.small
      have h1 : v * 1 ≤ v * 2 ^ (65 - i) := Nat.mul_le_mul_left _ (Nat.one_le_pow _ _ (by decide))
      omega
    by_cases hlt : b ≤ v
    · have hr := HI.out.room (by omega) hu
      obtain ⟨i, rfl⟩ : ∃ i', i = i' + 1 := ⟨i - 1, by omega⟩
      obtain ⟨q, p, r, hq, hr', hrb, hqv, hpv, e1, e2, e3⟩ := quo_facts v b hb (by omega)
      have HQ := Lib.hid hq
      have HR := Lib.hid hr'
      clear hq hr'
      have hds := Lib.digits36_size
      obtain ⟨c, hc⟩ : ∃ c, cs[i]? = some c := ⟨cs[i]'(by rw [HI.out.size]; omega), by simp⟩
      go_wp2
      refine ⟨⟨i, q, _, rfl, by go_num, rfl, ?_⟩, ?_⟩
      · rw [digit_at, HQ.out, HR.out]
        exact HI.out.step hb hlt
      · simp [RowKit.intOf]
        rw [HQ.out]
        exact Nat.div_lt_self (by omega) (by omega)
    · have hr := HI.out.two hu
      obtain ⟨i, rfl⟩ : ∃ i', i = i' + 1 + 1 := ⟨i - 2, by omega⟩
      have hds := Lib.digits36_size
      have hvb : v < b := by omega
      obtain ⟨c, hc⟩ : ∃ c, cs[i + 1]? = some c := ⟨cs[i + 1]'(by rw [HI.out.size]; omega), by simp⟩
      have hi' : i < cs.size := by rw [HI.out.size]; omega
      obtain ⟨c', hc'⟩ : ∃ c', (cs.setIfInBounds (i + 1) (.int .u8 ((Lib.digits36[v]'(by omega)).toNat : Int)))[i]? = some c' := at_some_set _ hi'
      have hsl := slice65 w.heap.size i (by omega)
      obtain ⟨hl1, hl2⟩ := HI.out.lastNeg hvb
      have hcv := conv65 w _ i (45 :: text b u) hl1 hl2
      rw [← digit_at v (by omega)] at hcv
      have H1 := Lib.hid hl1
      have H2 := Lib.hid hl2
      clear hl1 hl2
      go_wp2
      go_ret2
      exact ⟨rfl, (Below.refl _ _).alloc (Nat.le_refl _) _⟩

set_option maxHeartbeats 2000000 in
set_option maxRecDepth 100000 in
theorem formatBits_powN (b s u U : Nat) (w : World) (hb : 2 ≤ b) (hb2 : b ≤ 36) (hb10 : b ≠ 10) (hu : u < 18446744073709551616) (hneg : IntKind.u64.wrap (-(U : Int)) = (u : Int))
    (hp : ∀ w, Calls Tryd.prog 71 #[.int .i64 b] w fun e w' => e = .returned (.bool true) ∧ w = w')
    (hs : b = 2 ^ s) (hs1 : s ≤ 5) (ht : ∀ w', Below w.heap.size w w' → Calls Tryd.prog 72 #[.int .u64 b] w' fun e w'' => e = .returned (.int .i64 s) ∧ w' = w'') :
    Calls Tryd.prog 59 #[.slice none 0 0, .int .u64 U, .int .i64 b, .bool true, .bool false] w fun e w' =>
      e = .returned (.tuple #[.slice none 0 0, .string (bs (45 :: text b u))]) ∧ Below w.heap.size w w' := by
  have HP := Lib.hid hp
  have HT := Lib.hid ht
  have HS := Lib.hid hs
  clear hp ht hs
  have h10 : ((b : Int) == 10) = false := by simp; omega
  have h2 : decide ((b : Int) < 2) = false := by simp; omega
  have h36 : decide (36 < (b : Int)) = false := by simp; omega
  have hz := zero65
  go_enter Tryd.func59, Tryd.ntmps59
  go_name_bytes_deep 38 PS hPS
  clear hPS
  go_name_bytes_deep 30 DG hDG
  have eDG : DG = Lib.digits36 := by rw [← hDG]; decide +kernel
  subst eDG
  clear hDG
  go_wp2_with (first
    | (go_at_call 71; refine (HP.out _).mono ?_; rintro e w' ⟨rfl, rfl⟩)
    | (go_at_call 72; refine (HT.out _ ((Below.refl _ _).alloc (Nat.le_refl _) _)).mono ?_; rintro e w' ⟨rfl, rfl⟩))
  go_loopw [1, 13] (fun vu vi wr => ∃ (i v : Nat) (cs : Array Value), vu = .int .u64 v ∧ vi = .int .i64 i ∧ wr = w.alloc (.cells cs 89) ∧ Hid (FbInv b u i v cs)) (fun vu _ _ => (RowKit.intOf vu).toNat)
  case atStart => exact ⟨65, u, zeros65, by first | rfl | rw [hneg], rfl, rfl, FbInv.start b u⟩
  case round =>
    clear hneg
    obtain ⟨i, v, cs, rfl, rfl, rfl, HI⟩ := hrel
    have hi := HI.out.le
    have hvu : v ≤ u := by
      have := HI.out.small
      have h1 : v * 1 ≤ v * 2 ^ (65 - i) := Nat.mul_le_mul_left _ (Nat.one_le_pow _ _ (by decide))
      omega
    by_cases hlt : b ≤ v
    · have hr := HI.out.room (by omega) hu
      obtain ⟨i, rfl⟩ : ∃ i', i = i' + 1 := ⟨i - 1, by omega⟩
      obtain ⟨q, r, hq, hr', hrb, hqv, e1, e2⟩ := pow_facts v b s HS.out hb (by omega) hb2
      have HQ := Lib.hid hq
      have HR := Lib.hid hr'
      clear hq hr'
      have hds := Lib.digits36_size
      obtain ⟨c, hc⟩ : ∃ c, cs[i]? = some c := ⟨cs[i]'(by rw [HI.out.size]; omega), by simp⟩
      go_wp2
      refine ⟨⟨i, q, _, rfl, by go_num, rfl, ?_⟩, ?_⟩
      · rw [digit_at, HQ.out, HR.out]
        exact HI.out.step hb hlt
      · simp [RowKit.intOf]
        rw [HQ.out]
        exact Nat.div_lt_self (by omega) (by omega)
    · have hr := HI.out.two hu
      obtain ⟨i, rfl⟩ : ∃ i', i = i' + 1 + 1 := ⟨i - 2, by omega⟩
      have hds := Lib.digits36_size
      have hvb : v < b := by omega
      obtain ⟨c, hc⟩ : ∃ c, cs[i + 1]? = some c := ⟨cs[i + 1]'(by rw [HI.out.size]; omega), by simp⟩
      have hi' : i < cs.size := by rw [HI.out.size]; omega
      obtain ⟨c', hc'⟩ : ∃ c', (cs.setIfInBounds (i + 1) (.int .u8 ((Lib.digits36[v]'(by omega)).toNat : Int)))[i]? = some c' := at_some_set _ hi'
      have hsl := slice65 w.heap.size i (by omega)
      obtain ⟨hl1, hl2⟩ := HI.out.lastNeg hvb
      have hcv := conv65 w _ i (45 :: text b u) hl1 hl2
      rw [← digit_at v (by omega)] at hcv
      have H1 := Lib.hid hl1
      have H2 := Lib.hid hl2
      clear hl1 hl2
      go_wp2
      go_ret2
      exact ⟨rfl, (Below.refl _ _).alloc (Nat.le_refl _) _⟩
end Go.Proofs.YtenepfefpoiddaaDoor
