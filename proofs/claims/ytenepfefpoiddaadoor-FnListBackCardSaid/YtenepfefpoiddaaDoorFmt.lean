/- internal/strconv.formatBits and FormatUint: the text of a number in a base from 2 to 36. -/
import Derived.Test.YtenepfefpoiddaaDoorProg
import Derived.Test.YtenepfefpoiddaaDoorDigs
import Derived.Test.YtenepfefpoiddaaDoorShelf
import Derived.Lib.Walk
import Derived.Lib.ItoaMem
import Derived.WalkKit
import Derived.WalkLawsBesides
import Derived.WalkSpells
import Derived.Outline
import Derived.Lib.LaidTab
import Derived.BigCall
import Derived.BigGuard
import Derived.Laws.BitsAllLaws
namespace Go.Proofs.YtenepfefpoiddaaDoor
open Go.RowKit Go.Lib

def zeros65 : Array Value := Array.replicate 65 (.int .u8 0)
theorem zeros65_size : zeros65.size = 65 := by simp [zeros65]
theorem zero65 (w : World) : (zeroValue 89).run Tryd.prog w = .ok (.agg zeros65) w := by kernel_rfl

/-- What holds at the head of each round: the places from i on hold the digits that were cut off u; v is what is left. -/
structure FbInv (b u i v : Nat) (cs : Array Value) : Prop where
  size : cs.size = 65
  le : i ≤ 65
  digits : ∃ ds : List Nat, ds.length + i = 65 ∧ digs b u = digs b v ++ ds ∧ ∀ j (_ : j < ds.length), cs[i + j]? = some (.int .u8 ((dch ds[j]).toNat : Int))
  small : v * 2 ^ (65 - i) ≤ u
  pos : i = 65 ∨ 1 ≤ v

theorem FbInv.start (b u : Nat) : FbInv b u 65 u zeros65 :=
  ⟨zeros65_size, Nat.le_refl _, ⟨[], by simp, by simp, fun j hj => by simp at hj⟩, by simp, .inl rfl⟩

theorem FbInv.room {b u i v : Nat} {cs : Array Value} (h : FbInv b u i v cs) (hv : 1 ≤ v) (hu : u < 18446744073709551616) : 2 ≤ i := by
  have h1 := h.small
  by_cases hi : 2 ≤ i
  · exact hi
  · have h2 : 2 ^ 64 ≤ 2 ^ (65 - i) := Nat.pow_le_pow_right (by decide) (by omega)
    have h3 : 1 * 2 ^ (65 - i) ≤ v * 2 ^ (65 - i) := Nat.mul_le_mul_right _ hv
    have h4 : (2 : Nat) ^ 64 = 18446744073709551616 := by decide
    omega

theorem FbInv.two {b u i v : Nat} {cs : Array Value} (h : FbInv b u i v cs) (hu : u < 18446744073709551616) : 2 ≤ i := by
  rcases h.pos with e | e
  · omega
  · exact h.room e hu

theorem FbInv.last {b u i v : Nat} {cs : Array Value} (h : FbInv b u (i + 1) v cs) (hv : v < b) :
    (text b u).length + i = 65 ∧ ∀ j (_ : j < (text b u).length), (cs.setIfInBounds i (.int .u8 ((dch v).toNat : Int)))[i + j]? = some (.int .u8 ((text b u)[j].toNat : Int)) := by
  obtain ⟨h1, h2, ⟨ds, h3, h4, h5⟩, _, _⟩ := h
  have ht : text b u = dch v :: ds.map dch := by rw [text, h4, digs_lt hv]; simp
  refine ⟨by rw [ht]; simp; omega, fun j hj => ?_⟩
  simp only [ht] at hj ⊢
  cases j with
  | zero => simp [Array.getElem?_setIfInBounds]; omega
  | succ j =>
    have := h5 j (by simpa using hj)
    rw [Array.getElem?_setIfInBounds, if_neg (by omega)]
    rw [show i + 1 + j = i + (j + 1) by omega] at this
    simpa using this

theorem FbInv.step {b u i v : Nat} {cs : Array Value} (h : FbInv b u (i + 1) v cs) (hb : 2 ≤ b) (hv : b ≤ v) :
    FbInv b u i (v / b) (cs.setIfInBounds i (.int .u8 ((dch (v % b)).toNat : Int))) := by
  obtain ⟨h1, h2, ⟨ds, h3, h4, h5⟩, h6, _⟩ := h
  refine ⟨by simp [h1], by omega, ⟨v % b :: ds, by simp; omega, by rw [h4, digs_ge hb hv]; simp, ?_⟩, ?_, .inr ((Nat.le_div_iff_mul_le (by omega)).2 (by omega))⟩
  · intro j hj
    cases j with
    | zero => simp [Array.getElem?_setIfInBounds]; omega
    | succ j =>
      have := h5 j (by simpa using hj)
      rw [Array.getElem?_setIfInBounds, if_neg (by omega)]
      rw [show i + 1 + j = i + (j + 1) by omega] at this
      simpa using this
  · have e : 65 - i = (65 - (i + 1)) + 1 := by omega
    rw [e, Nat.pow_succ]
    have h7 : v / b * 2 ≤ v := by
      have : v / b * 2 ≤ v / b * b := Nat.mul_le_mul_left _ hb
      have := Nat.div_mul_le_self v b
      omega
    have h8 : v / b * 2 * 2 ^ (65 - (i + 1)) ≤ v * 2 ^ (65 - (i + 1)) := Nat.mul_le_mul_right _ h7
    rw [Nat.mul_comm (2 ^ (65 - (i + 1))) 2, ← Nat.mul_assoc]
    omega

theorem digit_fin : ∀ i : Fin 36, (Lib.digits36[i.val]'(by rw [Lib.digits36_size]; exact i.isLt)) = dch i.val := by decide +kernel
theorem digit_at (r : Nat) (h : r < Lib.digits36.size) : Lib.digits36[r] = dch r := digit_fin ⟨r, by rw [Lib.digits36_size] at h; exact h⟩

/-- The arithmetic of one round: the quotient, the product, the rest, none of which wraps. -/
theorem quo_facts (v b : Nat) (hb : 2 ≤ b) (hv : v < 18446744073709551616) : ∃ q p r : Nat, q = v / b ∧ r = v % b ∧ r < b ∧ q ≤ v ∧ p ≤ v ∧
    IntKind.u64.wrap ((v : Int) / (b : Int)) = (q : Int) ∧ IntKind.u64.wrap ((q : Int) * (b : Int)) = (p : Int) ∧ IntKind.u64.wrap ((v : Int) - (p : Int)) = (r : Int) := by
  have h1 := Nat.div_add_mod v b
  have h2 : v % b < b := Nat.mod_lt _ (by omega)
  have h3 : v / b ≤ v := Nat.div_le_self _ _
  have h4 : v / b * b = b * (v / b) := Nat.mul_comm _ _
  refine ⟨v / b, v / b * b, v % b, rfl, rfl, h2, h3, by omega, ?_, ?_, ?_⟩
  · rw [IntKind.wrap_u64, ← Int.natCast_ediv]
    generalize v / b = x at *
    omega
  · rw [IntKind.wrap_u64, ← Int.natCast_mul]; omega
  · rw [IntKind.wrap_u64]; omega

theorem slice65 (blk i : Nat) (hi : i < 65) (W : World) : (Instr.sliceAt 89 (.pointer (some ⟨blk, 0, none⟩)) (some (.int .i64 (i : Int))) none none).run Tryd.prog W = .ok (.slice (some ⟨blk, i, none⟩) (65 - i) (65 - i)) W := by
  have hal : Tryd.prog.arrayLen 89 = 65 := by simp [Program.arrayLen, Tryd.underlying89]
  rw [run_sliceAt_array_l W 89 ⟨blk, 0, none⟩ (by simp [Program.arrayLen, Program.elem, Tryd.underlying89]) .i64 (i : Int) (by omega) (by rw [hal]; omega)]
  go_simp
  omega

theorem conv65 (w : World) (cs : Array Value) (i : Nat) (l : List UInt8) (hl : l.length + i = 65) (hc : ∀ j (_ : j < l.length), cs[i + j]? = some (.int .u8 (l[j].toNat : Int))) :
    (convert 23 9 (.slice (some ⟨w.heap.size, i, none⟩) (65 - i) (65 - i))).run Tryd.prog (w.alloc (.cells cs 89)) = .ok (.string ⟨l.toArray⟩) (w.alloc (.cells cs 89)) := by
  have h := run_convert_bytes_back (P := Tryd.prog) (w.alloc (.cells cs 89)) 23 9 5 ⟨w.heap.size, i, none⟩ (65 - i) l Tryd.underlying23 Tryd.underlying5 Tryd.underlying9 (fun j hj => by
    rw [Lib.add_plain, World.cell?_alloc_new]
    exact hc j hj)
  rw [show l.length = 65 - i by omega] at h
  exact h

theorem pow_facts (v b s : Nat) (hs : b = 2 ^ s) (hb : 2 ≤ b) (hv : v < 18446744073709551616) (hb2 : b ≤ 36) : ∃ q r : Nat, q = v / b ∧ r = v % b ∧ r < b ∧ q ≤ v ∧
    (v : Int) / 2 ^ s = (q : Int) ∧ bits .and .u64 (v : Int) ((b : Int) - 1) = (r : Int) := by
  have h2 : v % b < b := Nat.mod_lt _ (by omega)
  have h3 : v / b ≤ v := Nat.div_le_self _ _
  refine ⟨v / b, v % b, rfl, rfl, h2, h3, ?_, ?_⟩
  · rw [hs, Int.natCast_ediv]; simp
  · rw [show ((b : Int) - 1) = ((b - 1 : Nat) : Int) by omega, u64_and_nat _ _ hv (by omega), hs, Nat.and_two_pow_sub_one_eq_mod]

set_option maxHeartbeats 2000000 in
set_option maxRecDepth 100000 in
theorem formatBits_gen (b u : Nat) (w : World) (hb : 2 ≤ b) (hb2 : b ≤ 36) (hb10 : b ≠ 10) (hu : u < 18446744073709551616)
    (hp : ∀ w, Calls Tryd.prog 71 #[.int .i64 b] w fun e w' => e = .returned (.bool false) ∧ w = w') :
    Calls Tryd.prog 59 #[.slice none 0 0, .int .u64 u, .int .i64 b, .bool false, .bool false] w fun e w' =>
      e = .returned (.tuple #[.slice none 0 0, .string (str b u)]) ∧ Below w.heap.size w w' := by
  have HP := Lib.hid hp
  clear hp
  have h10 : ((b : Int) == 10) = false := by simp; omega
  have h2 : decide ((b : Int) < 2) = false := by simp; omega
  have h36 : decide (36 < (b : Int)) = false := by simp; omega
  have hz := zero65
  go_enter Tryd.func59, Tryd.ntmps59
  go_name_bytes_deep 38 PS hPS
  clear hPS
  go_name_bytes_deep 30 DG hDG
  have eDG : DG = Lib.digits36 := by rw [← hDG]; decide +kernel
  subst eDG
  clear hDG
  go_wp2_with (go_at_call 71; refine (HP.out _).mono ?_; rintro e w' ⟨rfl, rfl⟩)
  go_loopw [1, 13, 18] (fun vu vi _ wr => ∃ (i v : Nat) (cs : Array Value), vu = .int .u64 v ∧ vi = .int .i64 i ∧ wr = w.alloc (.cells cs 89) ∧ Hid (FbInv b u i v cs)) (fun vu _ _ _ => (RowKit.intOf vu).toNat)
  case atStart => exact ⟨65, u, zeros65, rfl, rfl, rfl, FbInv.start b u⟩
  case round =>
    obtain ⟨i, v, cs, rfl, rfl, rfl, HI⟩ := hrel
    have hi := HI.out.le
    have hvu : v ≤ u := by
      have := HI.out.small
      have h1 : v * 1 ≤ v * 2 ^ (65 - i) := Nat.mul_le_mul_left _ (Nat.one_le_pow _ _ (by decide))
      omega
    by_cases hlt : b ≤ v
    · have hr := HI.out.room (by omega) hu
      obtain ⟨i, rfl⟩ : ∃ i', i = i' + 1 := ⟨i - 1, by omega⟩
      obtain ⟨q, p, r, hq, hr', hrb, hqv, hpv, e1, e2, e3⟩ := quo_facts v b hb (by omega)
      have HQ := Lib.hid hq
      have HR := Lib.hid hr'
      clear hq hr'
      have hds := Lib.digits36_size
      obtain ⟨c, hc⟩ : ∃ c, cs[i]? = some c := ⟨cs[i]'(by rw [HI.out.size]; omega), by simp⟩
      go_wp2
      refine ⟨⟨i, q, _, rfl, by go_num, rfl, ?_⟩, ?_⟩
      · rw [digit_at, HQ.out, HR.out]
        exact HI.out.step hb hlt
      · simp [RowKit.intOf]
        rw [HQ.out]
        exact Nat.div_lt_self (by omega) (by omega)
    · have hr := HI.out.two hu
      obtain ⟨i, rfl⟩ : ∃ i', i = i' + 1 := ⟨i - 1, by omega⟩
      have hds := Lib.digits36_size
      have hvb : v < b := by omega
      obtain ⟨c, hc⟩ : ∃ c, cs[i]? = some c := ⟨cs[i]'(by rw [HI.out.size]; omega), by simp⟩
      have hsl := slice65 w.heap.size i (by omega)
      obtain ⟨hl1, hl2⟩ := HI.out.last hvb
      have hcv := conv65 w _ i (text b u) hl1 hl2
      rw [← digit_at v (by omega)] at hcv
      have H1 := Lib.hid hl1
      have H2 := Lib.hid hl2
      clear hl1 hl2
      go_wp2
      go_ret2
      exact ⟨rfl, (Below.refl _ _).alloc (Nat.le_refl _) _⟩
set_option maxHeartbeats 2000000 in
set_option maxRecDepth 100000 in
theorem formatBits_pow (b s u : Nat) (w : World) (hb : 2 ≤ b) (hb2 : b ≤ 36) (hb10 : b ≠ 10) (hu : u < 18446744073709551616)
    (hp : ∀ w, Calls Tryd.prog 71 #[.int .i64 b] w fun e w' => e = .returned (.bool true) ∧ w = w')
    (hs : b = 2 ^ s) (hs1 : s ≤ 5) (ht : ∀ w', Below w.heap.size w w' → Calls Tryd.prog 72 #[.int .u64 b] w' fun e w'' => e = .returned (.int .i64 s) ∧ w' = w'') :
    Calls Tryd.prog 59 #[.slice none 0 0, .int .u64 u, .int .i64 b, .bool false, .bool false] w fun e w' =>
      e = .returned (.tuple #[.slice none 0 0, .string (str b u)]) ∧ Below w.heap.size w w' := by
  have HP := Lib.hid hp
  have HT := Lib.hid ht
  have HS := Lib.hid hs
  clear hp ht hs
  have h10 : ((b : Int) == 10) = false := by simp; omega
  have h2 : decide ((b : Int) < 2) = false := by simp; omega
  have h36 : decide (36 < (b : Int)) = false := by simp; omega
  have hz := zero65
  go_enter Tryd.func59, Tryd.ntmps59
  go_name_bytes_deep 38 PS hPS
  clear hPS
  go_name_bytes_deep 30 DG hDG
  have eDG : DG = Lib.digits36 := by rw [← hDG]; decide +kernel
  subst eDG
  clear hDG
  go_wp2_with (first
    | (go_at_call 71; refine (HP.out _).mono ?_; rintro e w' ⟨rfl, rfl⟩)
    | (go_at_call 72; refine (HT.out _ ((Below.refl _ _).alloc (Nat.le_refl _) _)).mono ?_; rintro e w' ⟨rfl, rfl⟩))
  go_loopw [1, 13] (fun vu vi wr => ∃ (i v : Nat) (cs : Array Value), vu = .int .u64 v ∧ vi = .int .i64 i ∧ wr = w.alloc (.cells cs 89) ∧ Hid (FbInv b u i v cs)) (fun vu _ _ => (RowKit.intOf vu).toNat)
  case atStart => exact ⟨65, u, zeros65, rfl, rfl, rfl, FbInv.start b u⟩
  case round =>
    obtain ⟨i, v, cs, rfl, rfl, rfl, HI⟩ := hrel
    have hi := HI.out.le
    have hvu : v ≤ u := by
      have := HI.out.small
      have h1 : v * 1 ≤ v * 2 ^ (65 - i) := Nat.mul_le_mul_left _ (Nat.one_le_pow _ _ (by decide))
      omega
    by_cases hlt : b ≤ v
    · have hr := HI.out.room (by omega) hu
      obtain ⟨i, rfl⟩ : ∃ i', i = i' + 1 := ⟨i - 1, by omega⟩
      obtain ⟨q, r, hq, hr', hrb, hqv, e1, e2⟩ := pow_facts v b s HS.out hb (by omega) hb2
      have HQ := Lib.hid hq
      have HR := Lib.hid hr'
      clear hq hr'
      have hds := Lib.digits36_size
      obtain ⟨c, hc⟩ : ∃ c, cs[i]? = some c := ⟨cs[i]'(by rw [HI.out.size]; omega), by simp⟩
      go_wp2
      refine ⟨⟨i, q, _, rfl, by go_num, rfl, ?_⟩, ?_⟩
      · rw [digit_at, HQ.out, HR.out]
        exact HI.out.step hb hlt
      · simp [RowKit.intOf]
        rw [HQ.out]
        exact Nat.div_lt_self (by omega) (by omega)
    · have hr := HI.out.two hu
      obtain ⟨i, rfl⟩ : ∃ i', i = i' + 1 := ⟨i - 1, by omega⟩
      have hds := Lib.digits36_size
      have hvb : v < b := by omega
      obtain ⟨c, hc⟩ : ∃ c, cs[i]? = some c := ⟨cs[i]'(by rw [HI.out.size]; omega), by simp⟩
      have hsl := slice65 w.heap.size i (by omega)
      obtain ⟨hl1, hl2⟩ := HI.out.last hvb
      have hcv := conv65 w _ i (text b u) hl1 hl2
      rw [← digit_at v (by omega)] at hcv
      have H1 := Lib.hid hl1
      have H2 := Lib.hid hl2
      clear hl1 hl2
      go_wp2
      go_ret2
      exact ⟨rfl, (Below.refl _ _).alloc (Nat.le_refl _) _⟩
end Go.Proofs.YtenepfefpoiddaaDoor
