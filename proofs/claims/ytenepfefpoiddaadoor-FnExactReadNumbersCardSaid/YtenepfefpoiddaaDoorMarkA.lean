/- The helpers of the exact laws: comparisons, marks. (Printed by mark.py.) -/
import Derived.Test.YtenepfefpoiddaaDoorRow
import Derived.Maps.AppendAt
import Derived.Deep.QuietTactic
import Derived.BigQuiet
namespace Go.Proofs.YtenepfefpoiddaaDoor
open Go.RowKit

theorem below_drewN {B : Nat} {a w : World} (h : Below B a w) (n : Nat) : Below B a (w.drewN n) := ⟨h.os, h.tape, h.output, h.size, h.block⟩

/-- The cells of a row, wherever it lies. -/
def RowIn (w : World) (a : Option Addr) (l : List Value) : Prop := ∀ i (h : i < l.length), ∃ b off, a = some ⟨b, off, none⟩ ∧ w.cell? ⟨b, off + i, none⟩ = some (l[i]'h)
theorem RowIn.on {W W' : World} {a : Option Addr} {l : List Value} (h : RowIn W a l) (hb : Below W.heap.size W W') : RowIn W' a l := by
  intro i hi
  obtain ⟨b, off, h1, h2⟩ := h i hi
  exact ⟨b, off, h1, (hb.cell (p := ⟨b, off + i, none⟩) (Lib.lt_of_cell h2)).trans h2⟩
theorem own_block {w : World} {B : Nat} {e : TypeId} {a : Option Addr} {n cap : Nat} {l : List Value} (h : w.ownsRow B e 1 (.slice a n cap) n l) (hn : 0 < n) : ∃ g, a = some ⟨g, 0, none⟩ := by
  obtain ⟨g, c, e⟩ := own_form h hn
  simp at e
  exact ⟨g, e.1⟩
theorem own_rowIn {w : World} {B : Nat} {e : TypeId} {a : Option Addr} {n cap : Nat} {l : List Value} (h : w.ownsRow B e 1 (.slice a n cap) n l) : RowIn w a l := by
  intro i hi
  have hn : n = l.length := by have := h.1; omega
  obtain ⟨g, rfl⟩ := own_block h (by omega)
  refine ⟨g, 0, rfl, ?_⟩
  rw [Nat.zero_add, h.cellAt i (by omega), List.getElem?_eq_getElem hi]
def kCells (k : IntKind) (l : List Int) : List Value := l.map (.int k)
theorem kCells_len (k : IntKind) (l : List Int) : (kCells k l).length = l.length := by simp [kCells]
theorem kCells_at {k : IntKind} (l : List Int) (j : Nat) (h : j < l.length) {hj : j < (kCells k l).length} : (kCells k l)[j]'hj = .int k (l[j]'h) := by simp [kCells]
theorem k_len' (l : List Int) : (kCells .i64 l).length = l.length := by simp [kCells]
theorem k_at' (l : List Int) (j : Nat) (h : j < l.length) {hj : j < (kCells .i64 l).length} : (kCells .i64 l)[j]'hj = .int .i64 (l[j]'h) := by simp [kCells]
theorem copy_step_k (l : List Int) (M : List Value) (j : Nat) (h : j < l.length) (hM : j < M.length) : (kCells .i64 (l.take j) ++ M.drop j).set j (.int .i64 (l[j]'h)) = kCells .i64 (l.take (j + 1)) ++ M.drop (j + 1) := by
  have hl : (kCells .i64 (l.take j)).length = j := by rw [k_len', List.length_take]; omega
  rw [List.set_append_right _ _ (by omega), hl, Nat.sub_self, List.drop_eq_getElem_cons hM, List.set_cons_zero, ← List.take_append_getElem h, kCells, kCells, List.map_append, List.append_assoc]
  rfl
theorem iCells_k (l : List Int) : iCells l = kCells .i64 l := rfl
theorem bCells_k (l : List UInt8) : bCells l = kCells .u8 (l.map fun c => (c.toNat : Int)) := by simp [bCells, kCells]
/-- What mark writes. -/
def marks (K : IntKind) (k n : Nat) : List Value := (List.range n).map fun i : Nat => .int K (K.wrap ((k : Int) + (i : Int)))
theorem marks_len (K : IntKind) (k n : Nat) : (marks K k n).length = n := by simp [marks]
theorem marks_at (K : IntKind) (k n j : Nat) (_h : j < n) {hj : j < (marks K k n).length} : (marks K k n)[j]'hj = .int K (K.wrap ((k : Int) + (j : Int))) := by simp [marks]
theorem marks_step (K : IntKind) (k j : Nat) (l : List Value) (h : j < l.length) : (marks K k j ++ l.drop j).set j (.int K (K.wrap ((k : Int) + (j : Int)))) = marks K k (j + 1) ++ l.drop (j + 1) := by
  rw [List.set_append_right _ _ (by rw [marks_len]; exact Nat.le_refl _), marks_len, Nat.sub_self, List.drop_eq_getElem_cons h, List.set_cons_zero]
  simp [marks, List.range_succ]

set_option maxHeartbeats 1000000 in
set_option maxRecDepth 100000 in
theorem eqByteS_same (w : World) (a1 a2 : Option Addr) (n c1 c2 : Nat) (l : List Int) (hn : l.length = n) (h1 : RowIn w a1 (kCells .u8 l)) (h2 : RowIn w a2 (kCells .u8 l)) (lim : n ≤ 1099511627776) :
    Calls Tryd.prog 16 #[.slice a1 n c1, .slice a2 n c2] w fun e w' => e = .returned (.bool true) ∧ Below w.heap.size w w' := by
  have HN := Lib.hid hn
  have H1 := Lib.hid h1
  have H2 := Lib.hid h2
  clear hn h1 h2
  go_enter Tryd.func16, Tryd.ntmps16
  go_wp2
  go_loopw [5] (fun vj wr => ∃ j : Nat, j ≤ n ∧ vj = .int .i64 j ∧ Below w.heap.size w wr) (fun vj _ => n - (intOf vj).toNat)
  case atStart => exact ⟨0, by omega, rfl, Below.refl _ _⟩
  case round =>
    obtain ⟨j, hj, rfl, hbel⟩ := hrel
    by_cases hlt : j < n
    · have hjx : j < l.length := by rw [HN.out]; exact hlt
      obtain ⟨b1, o1, rfl, k1⟩ := (H1.out.on hbel) j (by rw [kCells_len]; exact hjx)
      obtain ⟨b2, o2, rfl, k2⟩ := (H2.out.on hbel) j (by rw [kCells_len]; exact hjx)
      rw [kCells_at l j hjx] at k1 k2
      generalize l[j] = x at *
      have jI : (j : Int) < (n : Int) := by omega
      have j0 : (0 : Int) ≤ (j : Int) := by omega
      go_wp2
      go_quiet (fail)
      go_wp2
      exact ⟨⟨j + 1, by omega, by go_num, below_drewN hbel _⟩, by simp [intOf]; omega⟩
    · go_wp2
      go_ret
      exact ⟨rfl, hbel⟩

set_option maxHeartbeats 1000000 in
set_option maxRecDepth 100000 in
theorem eqInt64S_same (w : World) (a1 a2 : Option Addr) (n c1 c2 : Nat) (l : List Int) (hn : l.length = n) (h1 : RowIn w a1 (kCells .i64 l)) (h2 : RowIn w a2 (kCells .i64 l)) (lim : n ≤ 1099511627776) :
    Calls Tryd.prog 17 #[.slice a1 n c1, .slice a2 n c2] w fun e w' => e = .returned (.bool true) ∧ Below w.heap.size w w' := by
  have HN := Lib.hid hn
  have H1 := Lib.hid h1
  have H2 := Lib.hid h2
  clear hn h1 h2
  go_enter Tryd.func17, Tryd.ntmps17
  go_wp2
  go_loopw [5] (fun vj wr => ∃ j : Nat, j ≤ n ∧ vj = .int .i64 j ∧ Below w.heap.size w wr) (fun vj _ => n - (intOf vj).toNat)
  case atStart => exact ⟨0, by omega, rfl, Below.refl _ _⟩
  case round =>
    obtain ⟨j, hj, rfl, hbel⟩ := hrel
    by_cases hlt : j < n
    · have hjx : j < l.length := by rw [HN.out]; exact hlt
      obtain ⟨b1, o1, rfl, k1⟩ := (H1.out.on hbel) j (by rw [kCells_len]; exact hjx)
      obtain ⟨b2, o2, rfl, k2⟩ := (H2.out.on hbel) j (by rw [kCells_len]; exact hjx)
      rw [kCells_at l j hjx] at k1 k2
      generalize l[j] = x at *
      have jI : (j : Int) < (n : Int) := by omega
      have j0 : (0 : Int) ≤ (j : Int) := by omega
      go_wp2
      go_quiet (fail)
      go_wp2
      exact ⟨⟨j + 1, by omega, by go_num, below_drewN hbel _⟩, by simp [intOf]; omega⟩
    · go_wp2
      go_ret
      exact ⟨rfl, hbel⟩

set_option maxHeartbeats 1000000 in
set_option maxRecDepth 100000 in
theorem markByteS_any (w : World) (B : Nat) (a : Option Addr) (n c k : Nat) (l : List Value) (hown : w.ownsRow B 5 1 (.slice a n c) n l) (lim : k + n ≤ 1099511627776) :
    Calls Tryd.prog 19 #[.slice a n c, .int .i64 k] w fun e w' => e = .returned (.int .i64 ((k + n : Nat) : Int)) ∧ w'.ownsRow B 5 1 (.slice a n c) n (marks .u8 k n) ∧ w.grownBy w' (Value.slice a n c).ownBlock := by
  have HL : Hid (l.length = n) := Lib.hid (by have := hown.1; omega)
  go_enter Tryd.func19, Tryd.ntmps19
  go_wp2
  go_loopw [1, 5] (fun vk vj wr => ∃ j : Nat, j ≤ n ∧ vk = .int .i64 ((k : Int) + (j : Int)) ∧ vj = .int .i64 j ∧ wr.ownsRow B 5 1 (.slice a n c) n (marks .u8 k j ++ l.drop j) ∧ w.grownBy wr (Value.slice a n c).ownBlock) (fun _ vj _ => n - (intOf vj).toNat)
  case atStart => exact ⟨0, by omega, by simp, rfl, by simpa [marks] using hown, World.grownBy.refl _ _⟩
  case round =>
    obtain ⟨j, hj, rfl, rfl, o1, hg⟩ := hrel
    by_cases hlt : j < n
    · obtain ⟨g, rfl⟩ := own_block o1 (by omega)
      have hlen : j < (marks .u8 k j ++ l.drop j).length := by rw [List.length_append, marks_len, List.length_drop, HL.out]; omega
      have hcell := o1.cellAt j (by omega)
      rw [List.getElem?_eq_getElem hlen] at hcell
      have hfz := o1.frozenAt j
      obtain ⟨hs, hg2⟩ := o1.stored j (.int .u8 (IntKind.u8.wrap ((k : Int) + (j : Int))))
      rw [marks_step .u8 k j l (by rw [HL.out]; exact hlt)] at hs
      generalize (marks .u8 k j ++ l.drop j)[j] = y at *
      obtain ⟨z, hz⟩ : ∃ z, IntKind.u8.wrap ((k : Int) + (j : Int)) = z := ⟨_, rfl⟩
      rw [hz] at hs hg2
      have HS := Lib.hid hs
      have HG := Lib.hid (World.grownBy.trans hg hg2)
      clear hs hg2 hlen o1
      go_wp2
      go_round
      case rel => exact ⟨j + 1, by omega, by go_num, by go_num, HS.out, HG.out⟩
      case measure => simp [intOf]; omega
    · obtain rfl : j = n := by omega
      rw [List.drop_eq_nil_of_le (by rw [HL.out]; omega), List.append_nil] at o1
      have O1 := Lib.hid o1
      clear o1
      go_wp2
      go_ret
      exact ⟨by go_num, O1.out, hg⟩

set_option maxHeartbeats 1000000 in
set_option maxRecDepth 100000 in
theorem markInt64S_any (w : World) (B : Nat) (a : Option Addr) (n c k : Nat) (l : List Value) (hown : w.ownsRow B 2 1 (.slice a n c) n l) (lim : k + n ≤ 1099511627776) :
    Calls Tryd.prog 18 #[.slice a n c, .int .i64 k] w fun e w' => e = .returned (.int .i64 ((k + n : Nat) : Int)) ∧ w'.ownsRow B 2 1 (.slice a n c) n (marks .i64 k n) ∧ w.grownBy w' (Value.slice a n c).ownBlock := by
  have HL : Hid (l.length = n) := Lib.hid (by have := hown.1; omega)
  go_enter Tryd.func18, Tryd.ntmps18
  go_wp2
  go_loopw [1, 5] (fun vk vj wr => ∃ j : Nat, j ≤ n ∧ vk = .int .i64 ((k : Int) + (j : Int)) ∧ vj = .int .i64 j ∧ wr.ownsRow B 2 1 (.slice a n c) n (marks .i64 k j ++ l.drop j) ∧ w.grownBy wr (Value.slice a n c).ownBlock) (fun _ vj _ => n - (intOf vj).toNat)
  case atStart => exact ⟨0, by omega, by simp, rfl, by simpa [marks] using hown, World.grownBy.refl _ _⟩
  case round =>
    obtain ⟨j, hj, rfl, rfl, o1, hg⟩ := hrel
    by_cases hlt : j < n
    · obtain ⟨g, rfl⟩ := own_block o1 (by omega)
      have hlen : j < (marks .i64 k j ++ l.drop j).length := by rw [List.length_append, marks_len, List.length_drop, HL.out]; omega
      have hcell := o1.cellAt j (by omega)
      rw [List.getElem?_eq_getElem hlen] at hcell
      have hfz := o1.frozenAt j
      obtain ⟨hs, hg2⟩ := o1.stored j (.int .i64 (IntKind.i64.wrap ((k : Int) + (j : Int))))
      rw [marks_step .i64 k j l (by rw [HL.out]; exact hlt)] at hs
      generalize (marks .i64 k j ++ l.drop j)[j] = y at *
      have hz : IntKind.i64.wrap ((k : Int) + (j : Int)) = (k : Int) + (j : Int) := by rw [IntKind.wrap_i64]; omega
      rw [hz] at hs hg2
      have HS := Lib.hid hs
      have HG := Lib.hid (World.grownBy.trans hg hg2)
      clear hs hg2 hlen o1
      go_wp2
      go_round
      case rel => exact ⟨j + 1, by omega, by go_num, by go_num, HS.out, HG.out⟩
      case measure => simp [intOf]; omega
    · obtain rfl : j = n := by omega
      rw [List.drop_eq_nil_of_le (by rw [HL.out]; omega), List.append_nil] at o1
      have O1 := Lib.hid o1
      clear o1
      go_wp2
      go_ret
      exact ⟨by go_num, O1.out, hg⟩

set_option maxHeartbeats 1000000 in
set_option maxRecDepth 100000 in
theorem heldByteS_any (w : World) (a : Option Addr) (n c k : Nat) (h1 : RowIn w a (marks .u8 k n)) (lim : k + n ≤ 1099511627776) :
    Calls Tryd.prog 20 #[.slice a n c, .int .i64 k] w fun e w' => e = .returned (.int .i64 ((k + n : Nat) : Int)) ∧ Below w.heap.size w w' := by
  have H1 := Lib.hid h1
  clear h1
  go_enter Tryd.func20, Tryd.ntmps20
  go_wp2
  go_loop [1, 5] (fun vk vj => ∃ j : Nat, j ≤ n ∧ vk = .int .i64 ((k : Int) + (j : Int)) ∧ vj = .int .i64 j) (fun _ vj => n - (intOf vj).toNat)
  case atStart => exact ⟨0, by omega, by simp, rfl⟩
  case round =>
    obtain ⟨j, hj, rfl, rfl⟩ := hrel
    by_cases hlt : j < n
    · obtain ⟨b1, o1, rfl, k1⟩ := H1.out j (by rw [marks_len]; exact hlt)
      rw [marks_at .u8 k n j hlt] at k1
      obtain ⟨z, hz⟩ : ∃ z, IntKind.u8.wrap ((k : Int) + (j : Int)) = z := ⟨_, rfl⟩
      rw [hz] at k1
      go_wp2
      go_round
      case rel => exact ⟨j + 1, by omega, by go_num, by go_num⟩
      case measure => simp [intOf]; omega
    · obtain rfl : j = n := by omega
      go_wp2
      go_ret
      exact ⟨by go_num, Below.refl _ _⟩

set_option maxHeartbeats 1000000 in
set_option maxRecDepth 100000 in
theorem toInt64S_any (w : World) (a : Option Addr) (n c : Nat) (l : List Int) (hn : l.length = n) (h1 : RowIn w a (kCells .i64 l)) (lim : n ≤ 1048576) :
    Calls Tryd.prog 14 #[.slice a n c] w fun e w' => e = .returned (.slice (some ⟨w.heap.size, 0, none⟩) n n) ∧ w'.ownsRow w.heap.size 2 1 (.slice (some ⟨w.heap.size, 0, none⟩) n n) n (kCells .i64 l) ∧ Below w.heap.size w w' := by
  obtain ⟨i0, hi, hz0, hz1, hz2⟩ := info_parts infoI64
  have HN := Lib.hid hn
  have H1 := Lib.hid h1
  clear hn h1
  go_enter Tryd.func14, Tryd.ntmps14
  go_wp2_with (at_make; refine wpList_make_full _ rfl _ _ 22 rfl w.heap.size 2 i0 (.int .i64 0) 1 Tryd.underlying22 hi hz0 hz1 _ _ _ _ n rfl rfl rfl rfl (by rw [hz2]; omega) (by unfold maxLen; omega) (Nat.le_refl _) ?_; intro w1 o0 hg0; refine Hid.out ?_)
  refine Lib.hid ?_
  have hb1 : Below w.heap.size w w1 := (Below.refl _ _).grown hg0 (Nat.le_refl _) (fun k hk => by cases hk)
  obtain ⟨M, hM⟩ : ∃ M, M = (madeCells ((.int .i64 0) : Value).cells (n * 1)).toList := ⟨_, rfl⟩
  rw [← hM] at o0
  clear hM
  have HM : Hid (M.length = n) := Lib.hid (by have := o0.1; omega)
  generalize hg : w.heap.size = g at *
  go_wp2
  go_loopw [4] (fun vj wr => ∃ j : Nat, j ≤ n ∧ vj = .int .i64 j ∧ wr.ownsRow g 2 1 (.slice (some ⟨g, 0, none⟩) n n) n (kCells .i64 (l.take j) ++ M.drop j) ∧ Below g w wr) (fun vj _ => n - (intOf vj).toNat)
  case atStart => exact ⟨0, by omega, rfl, by simpa [kCells] using o0, hb1⟩
  case round =>
    obtain ⟨j, hj, rfl, o1, hbel⟩ := hrel
    by_cases hlt : j < n
    · have hjx : j < l.length := by rw [HN.out]; exact hlt
      have hbel' : Below w.heap.size w wr := by rw [hg]; exact hbel
      obtain ⟨b1, p1, rfl, k1⟩ := (H1.out.on hbel') j (by rw [k_len']; exact hjx)
      rw [k_at' l j hjx] at k1
      have hlen : j < (kCells .i64 (l.take j) ++ M.drop j).length := by rw [List.length_append, k_len', List.length_drop, HM.out, List.length_take]; omega
      have hcell := o1.cellAt j (by omega)
      rw [List.getElem?_eq_getElem hlen] at hcell
      have hfz := o1.frozenAt j
      obtain ⟨hs, hg2⟩ := o1.stored j (.int .i64 (l[j]'hjx))
      rw [copy_step_k l M j hjx (by rw [HM.out]; exact hlt)] at hs
      generalize (kCells .i64 (l.take j) ++ M.drop j)[j] = y at *
      generalize l[j] = x at *
      have HS := Lib.hid hs
      have HB := Lib.hid (hbel.grown hg2 (by rw [← hg]; exact hbel'.size) (fun k hk => by cases hk; exact Nat.le_refl _))
      clear hs hg2 hlen o1 hjx
      go_wp2
      exact ⟨⟨j + 1, by omega, by go_num, HS.out, HB.out⟩, by simp [intOf]; omega⟩
    · obtain rfl : j = n := by omega
      rw [List.drop_eq_nil_of_le (by rw [HM.out]; omega), List.append_nil, List.take_of_length_le (by rw [HN.out]; omega)] at o1
      have O1 := Lib.hid o1
      clear o1
      go_wp2
      go_ret
      subst hg
      exact ⟨rfl, O1.out, hbel⟩
end Go.Proofs.YtenepfefpoiddaaDoor
