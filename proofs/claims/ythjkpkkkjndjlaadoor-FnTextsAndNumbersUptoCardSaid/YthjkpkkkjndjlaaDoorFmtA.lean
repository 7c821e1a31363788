/- internal/strconv.formatBits that appends to a buffer of the call's own. (Printed by appf.py out of the walks that hand back a text.) -/
import Derived.Test.YthjkpkkkjndjlaaDoorB
import Derived.Test.YthjkpkkkjndjlaaDoorForm
import Derived.Lib.FrozenHead2
import Derived.OwnWalk
namespace Go.Proofs.YthjkpkkkjndjlaaDoor
open Go.RowKit Go.Lib

def bCells (l : List UInt8) : List Value := l.map fun c => .int .u8 (c.toNat : Int)
theorem bCells_len (l : List UInt8) : (bCells l).length = l.length := by simp [bCells]
theorem bCells_one (l : List UInt8) : ∀ x ∈ bCells l, x.oneCell' = true := by
  intro x hx
  obtain ⟨c, _, rfl⟩ := List.mem_map.1 hx
  rfl
/-- It returns a buffer of its own that holds just these cells, and no text. -/
def TupPost (B : Nat) (W0 : World) (l : List Value) (e : Ending) (w' : World) : Prop := ∃ v', e = .returned (.tuple #[v', .string ⟨#[]⟩]) ∧ Lib.OwnBuf B 5 v' l.length l W0 w'

/-- append of bytes that lie somewhere to a buffer of the call's own. -/
theorem append_bufs {w : World} {ops : Array Oper} {rest : List Oper} {o : Oper} {a : Act} {Q : Exit → Act → World → Prop} (hgd : o.guard = none) (s x : Operand)
    (ho : o.op = .call { callee := .builtin .append, args := #[s, x], argTypes := #[40, 40] })
    (B : Nat) (W0 : World) (v : Value) (n : Nat) (xs : List Value) (hs : a.eval s = v) (hb : Lib.OwnBuf B 5 v n xs W0 w) (ad : Addr) (m c : Nat) (r : List UInt8)
    (hx : a.eval x = .slice (some ad) m c) (hm : r.length = m) (hnews : ∀ j (_ : j < r.length), w.cell? (ad.add j) = some (.int .u8 (r[j].toNat : Int))) (hlim : n + m ≤ 140737488355328)
    (h : ∀ v' w', Lib.OwnBuf B 5 v' (n + m) (xs ++ bCells r) W0 w' → wpList Tryd.prog ops Q rest (a.put o.dst v') w') : wpList Tryd.prog ops Q (o :: rest) a w := by
  obtain ⟨i0, hi, hz0, hz1, hz2⟩ := info_parts infoU8
  subst hm
  refine wpList_append_ownF _ hgd s x 40 ho B 5 i0 (.int .u8 0) 1 1 Tryd.underlying40 hi hz0 hz1 hz2 rfl (by decide) v n xs hs hb.1 ad r.length c (bCells r) hx
    (by rw [bCells_len]; simp) ?_ (bCells_one r) (by unfold maxLen; omega) (by omega) hb.2.2 ?_
  · intro j y hy
    by_cases hj : j < r.length
    · have : (bCells r)[j]? = some (.int .u8 (r[j].toNat : Int)) := by simp [bCells, hj]
      rw [this] at hy
      rw [hnews j hj, hy]
    · rw [List.getElem?_eq_none (by rw [bCells_len]; omega)] at hy
      cases hy
  · intro v' w' h1 h2 _
    exact h v' w' (hb.grown h1 h2)

set_option maxHeartbeats 2000000 in
set_option maxRecDepth 100000 in
theorem formatBits_genA (B : Nat) (W0 : World) (dv : Value) (dn : Nat) (dxs : List Value) (b u : Nat) (w : World) (hb : 2 ≤ b) (hb2 : b ≤ 36) (hb10 : b ≠ 10) (hu : u < 18446744073709551616) (hbuf : Lib.OwnBuf B 5 dv dn dxs W0 w) (hlim : dn + 65 ≤ 140737488355328)
    (hp : ∀ w, Calls Tryd.prog 72 #[.int .i64 b] w fun e w' => e = .returned (.bool false) ∧ w = w') :
    Calls Tryd.prog 53 #[dv, .int .u64 u, .int .i64 b, .bool false, .bool true] w (TupPost B W0 (dxs ++ bCells (text b u))) := by
  have HX : Hid (dxs.length = dn) := Lib.hid (by have := hbuf.1.1; omega)
  have HP := Lib.hid hp
  clear hp
  have h10 : ((b : Int) == 10) = false := by simp; omega
  have h2 : decide ((b : Int) < 2) = false := by simp; omega
  have h36 : decide (36 < (b : Int)) = false := by simp; omega
  have hz := zero65
  go_enter Tryd.func53, Tryd.ntmps53
  go_name_bytes_deep 38 PS hPS
  clear hPS
  go_name_bytes_deep 30 DG hDG
  have eDG : DG = Lib.digits36 := by rw [← hDG]; decide +kernel
  subst eDG
  clear hDG
  go_wp2_with (go_at_call 72; refine (HP.out _).mono ?_; rintro e w' ⟨rfl, rfl⟩)
  go_loopw [1, 13, 18] (fun vu vi _ wr => ∃ (i v : Nat) (cs : Array Value), vu = .int .u64 v ∧ vi = .int .i64 i ∧ wr = w.alloc (.cells cs 95) ∧ Hid (FbInv b u i v cs)) (fun vu _ _ _ => (RowKit.intOf vu).toNat)
  case atStart => exact ⟨65, u, zeros65, rfl, rfl, rfl, FbInv.start b u⟩
  case round =>
    obtain ⟨i, v, cs, rfl, rfl, rfl, HI⟩ := hrel
    have hi := HI.out.le
    have hvu : v ≤ u := by
      have := HI.out.small
      have h1 : v * 1 ≤ v * 2 ^ (65 - i) := Nat.mul_le_mul_left _ (Nat.one_le_pow _ _ (by decide))
      omega
    by_cases hlt : b ≤ v
    · have hr := HI.out.room (by omega) hu
      obtain ⟨i, rfl⟩ : ∃ i', i = i' + 1 := ⟨i - 1, by omega⟩
      obtain ⟨q, p, r, hq, hr', hrb, hqv, hpv, e1, e2, e3⟩ := quo_facts v b hb (by omega)
      have HQ := Lib.hid hq
      have HR := Lib.hid hr'
      clear hq hr'
      have hds := Lib.digits36_size
      obtain ⟨c, hc⟩ : ∃ c, cs[i]? = some c := ⟨cs[i]'(by rw [HI.out.size]; omega), by simp⟩
      go_wp2
      refine ⟨⟨i, q, _, rfl, by go_num, rfl, ?_⟩, ?_⟩
      · rw [digit_at, HQ.out, HR.out]
        exact HI.out.step hb hlt
      · simp [RowKit.intOf]
        rw [HQ.out]
        exact Nat.div_lt_self (by omega) (by omega)
    · have hr := HI.out.two hu
      obtain ⟨i, rfl⟩ : ∃ i', i = i' + 1 := ⟨i - 1, by omega⟩
      have hds := Lib.digits36_size
      have hvb : v < b := by omega
      obtain ⟨c, hc⟩ : ∃ c, cs[i]? = some c := ⟨cs[i]'(by rw [HI.out.size]; omega), by simp⟩
      have hsl := slice65 w.heap.size i (by omega)
      obtain ⟨hl1, hl2⟩ := HI.out.last hvb
      rw [← digit_at v (by omega)] at hl2
      have hnew : ∀ j (_ : j < (text b u).length), (w.alloc (.cells (cs.setIfInBounds i (.int .u8 ((Lib.digits36[v]'(by omega)).toNat : Int))) 95)).cell? ((⟨w.heap.size, i, none⟩ : Addr).add j) = some (.int .u8 ((text b u)[j].toNat : Int)) := fun j hj => by
        rw [Lib.add_plain, World.cell?_alloc_new]
        exact hl2 j hj
      have hlt := text_len b u
      have HNW := Lib.hid hnew
      clear hnew hl2
      go_wp2_with (at_builtin; refine append_bufs rfl _ _ rfl B W0 dv dn dxs rfl (hbuf.alloc _) ⟨w.heap.size, i, none⟩ (65 - i) (65 - i) (text b u) rfl (by omega) HNW.out (by omega) ?_; intro v' w' hb'; refine Hid.out ?_)
      refine Lib.hid ?_
      have HB := Lib.hid hb'
      clear hb'
      go_wp2
      go_ret2
      refine ⟨v', rfl, ?_⟩
      have e1 : (dxs ++ bCells (text b u)).length = dn + (65 - i) := by rw [List.length_append, bCells_len, HX.out]; omega
      rw [e1]
      exact HB.out
set_option maxHeartbeats 2000000 in
set_option maxRecDepth 100000 in
theorem formatBits_powA (B : Nat) (W0 : World) (dv : Value) (dn : Nat) (dxs : List Value) (b s u : Nat) (w : World) (hb : 2 ≤ b) (hb2 : b ≤ 36) (hb10 : b ≠ 10) (hu : u < 18446744073709551616) (hbuf : Lib.OwnBuf B 5 dv dn dxs W0 w) (hlim : dn + 65 ≤ 140737488355328)
    (hp : ∀ w, Calls Tryd.prog 72 #[.int .i64 b] w fun e w' => e = .returned (.bool true) ∧ w = w')
    (hs : b = 2 ^ s) (hs1 : s ≤ 5) (ht : ∀ w', Below w.heap.size w w' → Calls Tryd.prog 73 #[.int .u64 b] w' fun e w'' => e = .returned (.int .i64 s) ∧ w' = w'') :
    Calls Tryd.prog 53 #[dv, .int .u64 u, .int .i64 b, .bool false, .bool true] w (TupPost B W0 (dxs ++ bCells (text b u))) := by
  have HX : Hid (dxs.length = dn) := Lib.hid (by have := hbuf.1.1; omega)
  have HP := Lib.hid hp
  have HT := Lib.hid ht
  have HS := Lib.hid hs
  clear hp ht hs
  have h10 : ((b : Int) == 10) = false := by simp; omega
  have h2 : decide ((b : Int) < 2) = false := by simp; omega
  have h36 : decide (36 < (b : Int)) = false := by simp; omega
  have hz := zero65
  go_enter Tryd.func53, Tryd.ntmps53
  go_name_bytes_deep 38 PS hPS
  clear hPS
  go_name_bytes_deep 30 DG hDG
  have eDG : DG = Lib.digits36 := by rw [← hDG]; decide +kernel
  subst eDG
  clear hDG
  go_wp2_with (first
    | (go_at_call 72; refine (HP.out _).mono ?_; rintro e w' ⟨rfl, rfl⟩)
    | (go_at_call 73; refine (HT.out _ ((Below.refl _ _).alloc (Nat.le_refl _) _)).mono ?_; rintro e w' ⟨rfl, rfl⟩))
  go_loopw [1, 13] (fun vu vi wr => ∃ (i v : Nat) (cs : Array Value), vu = .int .u64 v ∧ vi = .int .i64 i ∧ wr = w.alloc (.cells cs 95) ∧ Hid (FbInv b u i v cs)) (fun vu _ _ => (RowKit.intOf vu).toNat)
  case atStart => exact ⟨65, u, zeros65, rfl, rfl, rfl, FbInv.start b u⟩
  case round =>
    obtain ⟨i, v, cs, rfl, rfl, rfl, HI⟩ := hrel
    have hi := HI.out.le
    have hvu : v ≤ u := by
      have := HI.out.small
      have h1 : v * 1 ≤ v * 2 ^ (65 - i) := Nat.mul_le_mul_left _ (Nat.one_le_pow _ _ (by decide))
      omega
    by_cases hlt : b ≤ v
    · have hr := HI.out.room (by omega) hu
      obtain ⟨i, rfl⟩ : ∃ i', i = i' + 1 := ⟨i - 1, by omega⟩
      obtain ⟨q, r, hq, hr', hrb, hqv, e1, e2⟩ := pow_facts v b s HS.out hb (by omega) hb2
      have HQ := Lib.hid hq
      have HR := Lib.hid hr'
      clear hq hr'
      have hds := Lib.digits36_size
      obtain ⟨c, hc⟩ : ∃ c, cs[i]? = some c := ⟨cs[i]'(by rw [HI.out.size]; omega), by simp⟩
      go_wp2
      refine ⟨⟨i, q, _, rfl, by go_num, rfl, ?_⟩, ?_⟩
      · rw [digit_at, HQ.out, HR.out]
        exact HI.out.step hb hlt
      · simp [RowKit.intOf]
        rw [HQ.out]
        exact Nat.div_lt_self (by omega) (by omega)
    · have hr := HI.out.two hu
      obtain ⟨i, rfl⟩ : ∃ i', i = i' + 1 := ⟨i - 1, by omega⟩
      have hds := Lib.digits36_size
      have hvb : v < b := by omega
      obtain ⟨c, hc⟩ : ∃ c, cs[i]? = some c := ⟨cs[i]'(by rw [HI.out.size]; omega), by simp⟩
      have hsl := slice65 w.heap.size i (by omega)
      obtain ⟨hl1, hl2⟩ := HI.out.last hvb
      rw [← digit_at v (by omega)] at hl2
      have hnew : ∀ j (_ : j < (text b u).length), (w.alloc (.cells (cs.setIfInBounds i (.int .u8 ((Lib.digits36[v]'(by omega)).toNat : Int))) 95)).cell? ((⟨w.heap.size, i, none⟩ : Addr).add j) = some (.int .u8 ((text b u)[j].toNat : Int)) := fun j hj => by
        rw [Lib.add_plain, World.cell?_alloc_new]
        exact hl2 j hj
      have hlt := text_len b u
      have HNW := Lib.hid hnew
      clear hnew hl2
      go_wp2_with (at_builtin; refine append_bufs rfl _ _ rfl B W0 dv dn dxs rfl (hbuf.alloc _) ⟨w.heap.size, i, none⟩ (65 - i) (65 - i) (text b u) rfl (by omega) HNW.out (by omega) ?_; intro v' w' hb'; refine Hid.out ?_)
      refine Lib.hid ?_
      have HB := Lib.hid hb'
      clear hb'
      go_wp2
      go_ret2
      refine ⟨v', rfl, ?_⟩
      have e1 : (dxs ++ bCells (text b u)).length = dn + (65 - i) := by rw [List.length_append, bCells_len, HX.out]; omega
      rw [e1]
      exact HB.out

theorem formatBits_anyA (B B' : Nat) (W0 : World) (dv : Value) (dn : Nat) (dxs : List Value) (b u : Nat) (w : World) (hb : 2 ≤ b) (hb2 : b ≤ 36) (hb10 : b ≠ 10) (hu : u < 18446744073709551616) (hbuf : Lib.OwnBuf B 5 dv dn dxs W0 w) (hlim : dn + 65 ≤ 140737488355328) (hE : Env B' w) :
    Calls Tryd.prog 53 #[dv, .int .u64 u, .int .i64 b, .bool false, .bool true] w (TupPost B W0 (dxs ++ bCells (text b u))) := by
  cases h : isP b
  · exact formatBits_genA B W0 dv dn dxs b u w hb hb2 hb10 hu hbuf hlim (fun w => by have := isPow_any b w hb hb2; rwa [h] at this)
  · obtain ⟨s, hs, hs1, hs5⟩ := isP_pow b h
    exact formatBits_powA B W0 dv dn dxs b s u w hb hb2 hb10 hu hbuf hlim (fun w => by have := isPow_any b w hb hb2; rwa [h] at this) hs hs5
      (fun w' hw => tz_pow b s hs hs1 hs5 w' (hE.dbj w' (hw.mono hE.le)))
end Go.Proofs.YthjkpkkkjndjlaaDoor
