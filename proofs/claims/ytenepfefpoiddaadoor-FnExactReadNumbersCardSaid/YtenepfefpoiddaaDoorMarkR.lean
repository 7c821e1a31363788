/- The helpers of the exact law of ReadNumbers. (Printed by mark.py.) -/
import Derived.Test.YtenepfefpoiddaaDoorMarkA
namespace Go.Proofs.YtenepfefpoiddaaDoor
open Go.RowKit

theorem s_len' (l : List ByteArray) : (sCells l).length = l.length := by simp [sCells]
theorem s_at' (l : List ByteArray) (j : Nat) (h : j < l.length) {hj : j < (sCells l).length} : (sCells l)[j]'hj = .string (l[j]'h) := by simp [sCells]
theorem copy_step_s (l : List ByteArray) (M : List Value) (j : Nat) (h : j < l.length) (hM : j < M.length) : (sCells (l.take j) ++ M.drop j).set j (.string (l[j]'h)) = sCells (l.take (j + 1)) ++ M.drop (j + 1) := by
  have hl : (sCells (l.take j)).length = j := by rw [s_len', List.length_take]; omega
  rw [List.set_append_right _ _ (by omega), hl, Nat.sub_self, List.drop_eq_getElem_cons hM, List.set_cons_zero, ← List.take_append_getElem h, sCells, sCells, List.map_append, List.append_assoc]
  rfl

set_option maxHeartbeats 1000000 in
set_option maxRecDepth 100000 in
theorem eqIntS_same (w : World) (a1 a2 : Option Addr) (n c1 c2 : Nat) (l : List Int) (hn : l.length = n) (h1 : RowIn w a1 (kCells .i64 l)) (h2 : RowIn w a2 (kCells .i64 l)) (lim : n ≤ 1099511627776) :
    Calls Tryd.prog 30 #[.slice a1 n c1, .slice a2 n c2] w fun e w' => e = .returned (.bool true) ∧ Below w.heap.size w w' := by
  have HN := Lib.hid hn
  have H1 := Lib.hid h1
  have H2 := Lib.hid h2
  clear hn h1 h2
  go_enter Tryd.func30, Tryd.ntmps30
  go_wp2
  go_loopw [5] (fun vj wr => ∃ j : Nat, j ≤ n ∧ vj = .int .i64 j ∧ Below w.heap.size w wr) (fun vj _ => n - (intOf vj).toNat)
  case atStart => exact ⟨0, by omega, rfl, Below.refl _ _⟩
  case round =>
    obtain ⟨j, hj, rfl, hbel⟩ := hrel
    by_cases hlt : j < n
    · have hjx : j < l.length := by rw [HN.out]; exact hlt
      obtain ⟨b1, o1, rfl, k1⟩ := (H1.out.on hbel) j (by rw [kCells_len]; exact hjx)
      obtain ⟨b2, o2, rfl, k2⟩ := (H2.out.on hbel) j (by rw [kCells_len]; exact hjx)
      rw [kCells_at l j hjx] at k1 k2
      generalize l[j] = x at *
      have jI : (j : Int) < (n : Int) := by omega
      have j0 : (0 : Int) ≤ (j : Int) := by omega
      go_wp2
      go_quiet (fail)
      go_wp2
      exact ⟨⟨j + 1, by omega, by go_num, below_drewN hbel _⟩, by simp [intOf]; omega⟩
    · go_wp2
      go_ret
      exact ⟨rfl, hbel⟩

set_option maxHeartbeats 1000000 in
set_option maxRecDepth 100000 in
theorem eqStringS_same (w : World) (a1 a2 : Option Addr) (n c1 c2 : Nat) (l : List ByteArray) (hn : l.length = n) (h1 : RowIn w a1 (sCells l)) (h2 : RowIn w a2 (sCells l)) (lim : n ≤ 1099511627776) :
    Calls Tryd.prog 31 #[.slice a1 n c1, .slice a2 n c2] w fun e w' => e = .returned (.bool true) ∧ Below w.heap.size w w' := by
  have HN := Lib.hid hn
  have H1 := Lib.hid h1
  have H2 := Lib.hid h2
  clear hn h1 h2
  go_enter Tryd.func31, Tryd.ntmps31
  go_wp2
  go_loopw [5] (fun vj wr => ∃ j : Nat, j ≤ n ∧ vj = .int .i64 j ∧ Below w.heap.size w wr) (fun vj _ => n - (intOf vj).toNat)
  case atStart => exact ⟨0, by omega, rfl, Below.refl _ _⟩
  case round =>
    obtain ⟨j, hj, rfl, hbel⟩ := hrel
    by_cases hlt : j < n
    · have hjx : j < l.length := by rw [HN.out]; exact hlt
      obtain ⟨b1, o1, rfl, k1⟩ := (H1.out.on hbel) j (by rw [sCells_len]; exact hjx)
      obtain ⟨b2, o2, rfl, k2⟩ := (H2.out.on hbel) j (by rw [sCells_len]; exact hjx)
      rw [s_at' l j hjx] at k1 k2
      generalize l[j] = x at *
      have jI : (j : Int) < (n : Int) := by omega
      have j0 : (0 : Int) ≤ (j : Int) := by omega
      go_wp2
      go_quiet (fail)
      go_wp2
      exact ⟨⟨j + 1, by omega, by go_num, below_drewN hbel _⟩, by simp [intOf]; omega⟩
    · go_wp2
      go_ret
      exact ⟨rfl, hbel⟩

set_option maxHeartbeats 1000000 in
set_option maxRecDepth 100000 in
theorem markIntS_any (w : World) (B : Nat) (a : Option Addr) (n c k : Nat) (l : List Value) (hown : w.ownsRow B 3 1 (.slice a n c) n l) (lim : k + n ≤ 1099511627776) :
    Calls Tryd.prog 33 #[.slice a n c, .int .i64 k] w fun e w' => e = .returned (.int .i64 ((k + n : Nat) : Int)) ∧ w'.ownsRow B 3 1 (.slice a n c) n (marks .i64 k n) ∧ w.grownBy w' (Value.slice a n c).ownBlock := by
  have HL : Hid (l.length = n) := Lib.hid (by have := hown.1; omega)
  go_enter Tryd.func33, Tryd.ntmps33
  go_wp2
  go_loopw [1, 5] (fun vk vj wr => ∃ j : Nat, j ≤ n ∧ vk = .int .i64 ((k : Int) + (j : Int)) ∧ vj = .int .i64 j ∧ wr.ownsRow B 3 1 (.slice a n c) n (marks .i64 k j ++ l.drop j) ∧ w.grownBy wr (Value.slice a n c).ownBlock) (fun _ vj _ => n - (intOf vj).toNat)
  case atStart => exact ⟨0, by omega, by simp, rfl, by simpa [marks] using hown, World.grownBy.refl _ _⟩
  case round =>
    obtain ⟨j, hj, rfl, rfl, o1, hg⟩ := hrel
    by_cases hlt : j < n
    · obtain ⟨g, rfl⟩ := own_block o1 (by omega)
      have hlen : j < (marks .i64 k j ++ l.drop j).length := by rw [List.length_append, marks_len, List.length_drop, HL.out]; omega
      have hcell := o1.cellAt j (by omega)
      rw [List.getElem?_eq_getElem hlen] at hcell
      have hfz := o1.frozenAt j
      obtain ⟨hs, hg2⟩ := o1.stored j (.int .i64 (IntKind.i64.wrap ((k : Int) + (j : Int))))
      rw [marks_step .i64 k j l (by rw [HL.out]; exact hlt)] at hs
      generalize (marks .i64 k j ++ l.drop j)[j] = y at *
      have hz : IntKind.i64.wrap ((k : Int) + (j : Int)) = (k : Int) + (j : Int) := by rw [IntKind.wrap_i64]; omega
      rw [hz] at hs hg2
      have HS := Lib.hid hs
      have HG := Lib.hid (World.grownBy.trans hg hg2)
      clear hs hg2 hlen o1
      go_wp2
      go_round
      case rel => exact ⟨j + 1, by omega, by go_num, by go_num, HS.out, HG.out⟩
      case measure => simp [intOf]; omega
    · obtain rfl : j = n := by omega
      rw [List.drop_eq_nil_of_le (by rw [HL.out]; omega), List.append_nil] at o1
      have O1 := Lib.hid o1
      clear o1
      go_wp2
      go_ret
      exact ⟨by go_num, O1.out, hg⟩

set_option maxHeartbeats 1000000 in
set_option maxRecDepth 100000 in
theorem heldInt64S_any (w : World) (a : Option Addr) (n c k : Nat) (h1 : RowIn w a (marks .i64 k n)) (lim : k + n ≤ 1099511627776) :
    Calls Tryd.prog 34 #[.slice a n c, .int .i64 k] w fun e w' => e = .returned (.int .i64 ((k + n : Nat) : Int)) ∧ Below w.heap.size w w' := by
  have H1 := Lib.hid h1
  clear h1
  go_enter Tryd.func34, Tryd.ntmps34
  go_wp2
  go_loop [1, 5] (fun vk vj => ∃ j : Nat, j ≤ n ∧ vk = .int .i64 ((k : Int) + (j : Int)) ∧ vj = .int .i64 j) (fun _ vj => n - (intOf vj).toNat)
  case atStart => exact ⟨0, by omega, by simp, rfl⟩
  case round =>
    obtain ⟨j, hj, rfl, rfl⟩ := hrel
    by_cases hlt : j < n
    · obtain ⟨b1, o1, rfl, k1⟩ := H1.out j (by rw [marks_len]; exact hlt)
      rw [marks_at .i64 k n j hlt] at k1
      have hz : IntKind.i64.wrap ((k : Int) + (j : Int)) = (k : Int) + (j : Int) := by rw [IntKind.wrap_i64]; omega
      rw [hz] at k1
      go_wp2
      go_round
      case rel => exact ⟨j + 1, by omega, by go_num, by go_num⟩
      case measure => simp [intOf]; omega
    · obtain rfl : j = n := by omega
      go_wp2
      go_ret
      exact ⟨by go_num, Below.refl _ _⟩

set_option maxHeartbeats 1000000 in
set_option maxRecDepth 100000 in
theorem heldIntS_any (w : World) (a : Option Addr) (n c k : Nat) (h1 : RowIn w a (marks .i64 k n)) (lim : k + n ≤ 1099511627776) :
    Calls Tryd.prog 35 #[.slice a n c, .int .i64 k] w fun e w' => e = .returned (.int .i64 ((k + n : Nat) : Int)) ∧ Below w.heap.size w w' := by
  have H1 := Lib.hid h1
  clear h1
  go_enter Tryd.func35, Tryd.ntmps35
  go_wp2
  go_loop [1, 5] (fun vk vj => ∃ j : Nat, j ≤ n ∧ vk = .int .i64 ((k : Int) + (j : Int)) ∧ vj = .int .i64 j) (fun _ vj => n - (intOf vj).toNat)
  case atStart => exact ⟨0, by omega, by simp, rfl⟩
  case round =>
    obtain ⟨j, hj, rfl, rfl⟩ := hrel
    by_cases hlt : j < n
    · obtain ⟨b1, o1, rfl, k1⟩ := H1.out j (by rw [marks_len]; exact hlt)
      rw [marks_at .i64 k n j hlt] at k1
      have hz : IntKind.i64.wrap ((k : Int) + (j : Int)) = (k : Int) + (j : Int) := by rw [IntKind.wrap_i64]; omega
      rw [hz] at k1
      go_wp2
      go_round
      case rel => exact ⟨j + 1, by omega, by go_num, by go_num⟩
      case measure => simp [intOf]; omega
    · obtain rfl : j = n := by omega
      go_wp2
      go_ret
      exact ⟨by go_num, Below.refl _ _⟩

set_option maxHeartbeats 1000000 in
set_option maxRecDepth 100000 in
theorem toStringS_any (w : World) (a : Option Addr) (n c : Nat) (l : List ByteArray) (hn : l.length = n) (h1 : RowIn w a (sCells l)) (lim : n ≤ 1048576) :
    Calls Tryd.prog 28 #[.slice a n c] w fun e w' => e = .returned (.slice (some ⟨w.heap.size, 0, none⟩) n n) ∧ w'.ownsRow w.heap.size 9 1 (.slice (some ⟨w.heap.size, 0, none⟩) n n) n (sCells l) ∧ Below w.heap.size w w' := by
  obtain ⟨i0, hi, hz0, hz1, hz2⟩ := info_parts infoStr
  have HN := Lib.hid hn
  have H1 := Lib.hid h1
  clear hn h1
  go_enter Tryd.func28, Tryd.ntmps28
  go_wp2_with (at_make; refine wpList_make_full _ rfl _ _ 42 rfl w.heap.size 9 i0 (.string ⟨#[]⟩) 1 Tryd.underlying42 hi hz0 hz1 _ _ _ _ n rfl rfl rfl rfl (by rw [hz2]; omega) (by unfold maxLen; omega) (Nat.le_refl _) ?_; intro w1 o0 hg0; refine Hid.out ?_)
  refine Lib.hid ?_
  have hb1 : Below w.heap.size w w1 := (Below.refl _ _).grown hg0 (Nat.le_refl _) (fun k hk => by cases hk)
  obtain ⟨M, hM⟩ : ∃ M, M = (madeCells ((.string ⟨#[]⟩) : Value).cells (n * 1)).toList := ⟨_, rfl⟩
  rw [← hM] at o0
  clear hM
  have HM : Hid (M.length = n) := Lib.hid (by have := o0.1; omega)
  generalize hg : w.heap.size = g at *
  go_wp2
  go_loopw [4] (fun vj wr => ∃ j : Nat, j ≤ n ∧ vj = .int .i64 j ∧ wr.ownsRow g 9 1 (.slice (some ⟨g, 0, none⟩) n n) n (sCells (l.take j) ++ M.drop j) ∧ Below g w wr) (fun vj _ => n - (intOf vj).toNat)
  case atStart => exact ⟨0, by omega, rfl, by simpa [sCells] using o0, hb1⟩
  case round =>
    obtain ⟨j, hj, rfl, o1, hbel⟩ := hrel
    by_cases hlt : j < n
    · have hjx : j < l.length := by rw [HN.out]; exact hlt
      have hbel' : Below w.heap.size w wr := by rw [hg]; exact hbel
      obtain ⟨b1, p1, rfl, k1⟩ := (H1.out.on hbel') j (by rw [s_len']; exact hjx)
      rw [s_at' l j hjx] at k1
      have hlen : j < (sCells (l.take j) ++ M.drop j).length := by rw [List.length_append, s_len', List.length_drop, HM.out, List.length_take]; omega
      have hcell := o1.cellAt j (by omega)
      rw [List.getElem?_eq_getElem hlen] at hcell
      have hfz := o1.frozenAt j
      obtain ⟨hs, hg2⟩ := o1.stored j (.string (l[j]'hjx))
      rw [copy_step_s l M j hjx (by rw [HM.out]; exact hlt)] at hs
      generalize (sCells (l.take j) ++ M.drop j)[j] = y at *
      generalize l[j] = x at *
      have HS := Lib.hid hs
      have HB := Lib.hid (hbel.grown hg2 (by rw [← hg]; exact hbel'.size) (fun k hk => by cases hk; exact Nat.le_refl _))
      clear hs hg2 hlen o1 hjx
      go_wp2
      exact ⟨⟨j + 1, by omega, by go_num, HS.out, HB.out⟩, by simp [intOf]; omega⟩
    · obtain rfl : j = n := by omega
      rw [List.drop_eq_nil_of_le (by rw [HM.out]; omega), List.append_nil, List.take_of_length_le (by rw [HN.out]; omega)] at o1
      have O1 := Lib.hid o1
      clear o1
      go_wp2
      go_ret
      subst hg
      exact ⟨rfl, O1.out, hbel⟩

def SzPost (n : Nat) (l : List ByteArray) (w : World) (e : Ending) (w' : World) : Prop := ∃ r : Int, e = .returned (.int .i64 r) ∧ w = w' ∧ (0 ≤ r → n ≤ 1048576 ∧ ∀ s ∈ l, s.size ≤ 1048576)
theorem SzPost.intro {n : Nat} {l : List ByteArray} {w : World} {e : Ending} {w' : World} (r : Int) (h1 : e = .returned (.int .i64 r)) (h2 : w = w') (h3 : 0 ≤ r → n ≤ 1048576 ∧ ∀ s ∈ l, s.size ≤ 1048576) : SzPost n l w e w' := ⟨r, h1, h2, h3⟩
set_option maxHeartbeats 1000000 in
set_option maxRecDepth 100000 in
theorem szStringS_any (w : World) (a : Option Addr) (n c : Nat) (l : List ByteArray) (hn : l.length = n) (h1 : RowIn w a (sCells l)) (hs : ∀ s ∈ l, s.size ≤ maxLen) (lim : n ≤ maxLen) :
    Calls Tryd.prog 26 #[.slice a n c, .int .i64 1048576] w (SzPost n l w) := by
  have HN := Lib.hid hn
  have H1 := Lib.hid h1
  have HS := Lib.hid hs
  clear hn h1 hs
  unfold maxLen at lim
  by_cases hbig : n ≤ 1048576
  · have g0 : decide (1048576 - (n : Int) < 0) = false := by simp; omega
    obtain ⟨L0, hL0⟩ : ∃ L0 : Nat, 1048576 - (n : Int) = (L0 : Int) := ⟨1048576 - n, by omega⟩
    have hL1 : L0 ≤ 1048576 := by omega
    go_enter Tryd.func26, Tryd.ntmps26
    go_wp2
    clear hL0 g0
    go_loop [1, 5] (fun vl vj => ∃ j left : Nat, j ≤ n ∧ vl = .int .i64 left ∧ vj = .int .i64 j ∧ left ≤ 1048576 ∧ Hid (∀ s ∈ l.take j, s.size ≤ 1048576)) (fun _ vj => n - (intOf vj).toNat)
    case atStart => exact ⟨0, L0, by omega, rfl, rfl, hL1, fun s hs => by simp at hs⟩
    case round =>
      obtain ⟨j, left, hj, rfl, rfl, hleft, HA⟩ := hrel
      by_cases hlt : j < n
      · have hjx : j < l.length := by rw [HN.out]; exact hlt
        obtain ⟨b1, o1, rfl, k1⟩ := H1.out j (by rw [sCells_len]; exact hjx)
        rw [s_at' l j hjx] at k1
        have hsz := HS.out _ (List.getElem_mem hjx)
        unfold maxLen at hsz
        have hnext : (l[j]'hjx).size ≤ 1048576 → ∀ s ∈ l.take (j + 1), s.size ≤ 1048576 := fun h s hs => by
          rw [← List.take_append_getElem hjx] at hs
          rcases List.mem_append.1 hs with h1 | h1
          · exact HA.out s h1
          · rw [List.mem_singleton.1 h1]; exact h
        generalize l[j] = x at *
        obtain ⟨z, hz⟩ : ∃ z, x.size = z := ⟨_, rfl⟩
        rw [hz] at hsz hnext
        have HX := Lib.hid hnext
        clear hnext hjx
        have p63 : (2 : Nat) ^ 63 = 9223372036854775808 := by decide
        rw [p63] at hsz
        by_cases hover : left < z
        · have g1 : decide ((left : Int) - (z : Int) < 0) = true := by simp; omega
          go_wp2
          go_ret
          exact SzPost.intro (-1) rfl rfl (fun h => absurd h (by decide))
        · have g1 : decide ((left : Int) - (z : Int) < 0) = false := by simp; omega
          go_wp2
          go_round
          case rel => exact ⟨j + 1, left - z, by omega, by go_num, by go_num, by omega, HX.out (by omega)⟩
          case measure => simp [intOf]; omega
      · obtain rfl : j = n := by omega
        have hA := HA.out
        rw [List.take_of_length_le (by rw [HN.out]; omega)] at hA
        have HA2 := Lib.hid hA
        clear hA HA
        go_wp2
        go_ret
        exact SzPost.intro (left : Int) rfl rfl (fun _ => ⟨hbig, HA2.out⟩)
  · have p63 : (2 : Nat) ^ 63 = 9223372036854775808 := by decide
    rw [p63] at lim
    have g0 : decide (1048576 - (n : Int) < 0) = true := by simp; omega
    go_enter Tryd.func26, Tryd.ntmps26
    go_wp2
    go_ret
    exact SzPost.intro (-1) rfl rfl (fun h => absurd h (by decide))

theorem conv_u8 (w : World) (c : UInt8) : (convert 23 9 (.slice (some ⟨w.heap.size, 0, none⟩) 1 1)).run Tryd.prog (w.alloc (.cells #[.int .u8 (c.toNat : Int)] 5)) = .ok (.string (bs [c])) (w.alloc (.cells #[.int .u8 (c.toNat : Int)] 5)) :=
  run_convert_bytes_back (P := Tryd.prog) _ 23 9 5 ⟨w.heap.size, 0, none⟩ 1 [c] Tryd.underlying23 Tryd.underlying5 Tryd.underlying9 (fun j hj => by
    obtain rfl : j = 0 := by simpa using hj
    rw [Lib.add_plain, new_one]
    rfl)

set_option maxHeartbeats 1000000 in
set_option maxRecDepth 100000 in
theorem markText_any (w : World) (k : Nat) (hk : 1 ≤ k) (lim : k ≤ 1099511627776) :
    Calls Tryd.prog 45 #[.int .i64 k] w fun e w' => ∃ s : ByteArray, e = .returned (.string s) ∧ Below w.heap.size w w' := by
  have g0 : decide ((k : Int) ≤ 0) = false := by simp; omega
  go_enter Tryd.func45, Tryd.ntmps45
  go_wp2
  go_loopw [0, 3] (fun vk vo wr => ∃ (i : Nat) (T : ByteArray), vk = .int .i64 i ∧ vo = .string T ∧ T.size + i ≤ 1099511627776 ∧ Below w.heap.size w wr) (fun vk _ _ => (intOf vk).toNat)
  case atStart => exact ⟨k, ⟨#[]⟩, rfl, rfl, by show 0 + k ≤ _; omega, Below.refl _ _⟩
  case round =>
    clear g0
    obtain ⟨i, T, rfl, rfl, hs, hbel⟩ := hrel
    by_cases hi : 0 < i
    · obtain ⟨q, hq⟩ : ∃ q, q = i / 10 := ⟨_, rfl⟩
      obtain ⟨r, hr⟩ : ∃ r, r = i % 10 := ⟨_, rfl⟩
      have q1 : q < i := by omega
      have r1 : r < 10 := by omega
      have e1 : (i : Int) / 10 = (q : Int) := by omega
      have e2 : (i : Int) % 10 = (r : Int) := by omega
      have hc : (UInt8.ofNat (48 + r)).toNat = 48 + r := by rw [UInt8.toNat_ofNat']; omega
      have hcv := conv_u8 wr (UInt8.ofNat (48 + r))
      rw [hc] at hcv
      have hs1 : (bs [UInt8.ofNat (48 + r)]).size = 1 := rfl
      generalize bs [UInt8.ofNat (48 + r)] = D at *
      have hcv2 : ((48 + r : Nat) : Int) = 48 + (r : Int) := by omega
      rw [hcv2] at hcv
      have d1 : (D ++ T).size = 1 + T.size := by rw [ByteArray.size_append, hs1]
      have HD := Lib.hid d1
      clear hc hcv2 hq hr d1
      go_wp2
      refine ⟨⟨q, _, by go_num, rfl, ?_, hbel.alloc hbel.size _⟩, ?_⟩
      · rw [HD.out]; omega
      · simp [intOf]; omega
    · obtain rfl : i = 0 := by omega
      go_wp2
      go_ret
      exact ⟨_, rfl, hbel⟩

set_option maxHeartbeats 1000000 in
set_option maxRecDepth 100000 in
theorem markStringS_any (w : World) (B : Nat) (a : Option Addr) (n c k : Nat) (l : List Value) (hown : w.ownsRow B 9 1 (.slice a n c) n l) (hk : 1 ≤ k) (lim : k + n ≤ 1099511627776) (hB : B ≤ w.heap.size) :
    Calls Tryd.prog 32 #[.slice a n c, .int .i64 k] w fun e w' => e = .returned (.int .i64 ((k + n : Nat) : Int)) ∧ w.grownBy w' (Value.slice a n c).ownBlock := by
  go_enter Tryd.func32, Tryd.ntmps32
  go_wp2
  go_loopw [1, 5] (fun vk vj wr => ∃ (j : Nat) (l' : List Value), j ≤ n ∧ vk = .int .i64 ((k : Int) + (j : Int)) ∧ vj = .int .i64 j ∧ wr.ownsRow B 9 1 (.slice a n c) n l' ∧ w.grownBy wr (Value.slice a n c).ownBlock ∧ B ≤ wr.heap.size) (fun _ vj _ => n - (intOf vj).toNat)
  case atStart => exact ⟨0, l, by omega, by simp, rfl, hown, World.grownBy.refl _ _, hB⟩
  case round =>
    obtain ⟨j, l', hj, rfl, rfl, o1, hg, hBr⟩ := hrel
    by_cases hlt : j < n
    · obtain ⟨g, rfl⟩ := own_block o1 (by omega)
      have hM := fun w1 => markText_any w1 (k + j) (by omega) (by omega)
      rw [show ((k + j : Nat) : Int) = (k : Int) + (j : Int) by omega] at hM
      have HM := Lib.hid hM
      clear hM
      go_wp2_with (go_at_call 45; refine (HM.out _).mono ?_; rintro e w1 ⟨s, rfl, hw1⟩; refine Hid.out ?_)
      refine Lib.hid ?_
      have o2 := own_below o1 hw1
      have hlen : j < l'.length := by have := o2.1; omega
      have hcell := o2.cellAt j (by omega)
      rw [List.getElem?_eq_getElem hlen] at hcell
      have hfz := o2.frozenAt j
      obtain ⟨hs, hg2⟩ := o2.stored j (.string s)
      have hg1 : wr.grownBy w1 (Value.slice (some ⟨g, 0, none⟩) n c).ownBlock := ⟨hw1.os, hw1.tape, hw1.output, hw1.size, fun j hj _ => hw1.block j hj⟩
      generalize l'[j] = y at *
      have HS := Lib.hid hs
      have HG := Lib.hid (World.grownBy.trans (World.grownBy.trans hg hg1) hg2)
      have hBs := Nat.le_trans hBr (Nat.le_trans hw1.size hg2.size)
      clear hs hg1 hg2 hlen o1 o2
      go_wp2
      exact ⟨⟨j + 1, _, by omega, by go_num, by go_num, HS.out, HG.out, hBs⟩, by simp [intOf]; omega⟩
    · obtain rfl : j = n := by omega
      go_wp2
      go_ret
      exact ⟨by go_num, hg⟩
end Go.Proofs.YtenepfefpoiddaaDoor
