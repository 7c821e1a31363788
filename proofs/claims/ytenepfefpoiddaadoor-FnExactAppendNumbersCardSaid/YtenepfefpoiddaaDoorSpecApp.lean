/- The reference's Signed and AppendNumbers. -/
import Derived.Test.YtenepfefpoiddaaDoorTxt
import Derived.Test.YtenepfefpoiddaaDoorApp
import Derived.Lib.AppendStr
namespace Go.Proofs.YtenepfefpoiddaaDoor
open Go.RowKit

set_option maxRecDepth 100000 in
theorem Signed_any (n : Int) (w : World) (h0 : -9223372036854775808 ≤ n) (h1 : n ≤ 9223372036854775807) :
    Calls Tryd.prog 37 #[.int .i64 n, .int .i64 10] w fun e w' => e = .returned (.string (istr 10 n)) ∧ Below w.heap.size w w' := by
  have hT := fun w1 => Text_any 10 n.natAbs w1 (by omega) (by omega) (by omega)
  have hZ := fun w1 => size_any n w1 h0 h1
  have hsz : (str 10 n.natAbs).size ≤ 64 := by rw [str_size]; exact digs_len (by omega) 63 n.natAbs (by omega)
  by_cases hn : n < 0
  · have hd : decide (n < 0) = true := by simpa using hn
    have hI : istr 10 n = (⟨#[45]⟩ : ByteArray) ++ str 10 n.natAbs := istr_neg hn
    rw [hI]
    generalize str 10 n.natAbs = D at *
    generalize n.natAbs = u at *
    have HT := Lib.hid hT
    have HZ := Lib.hid hZ
    clear hT hZ hI
    go_enter Tryd.func37, Tryd.ntmps37
    go_wp2_with (first | (go_at_call 36; refine (HZ.out _).mono ?_; rintro e w' ⟨rfl, rfl⟩) | (go_at_call 46; refine (HT.out _).mono ?_; rintro e w1 ⟨rfl, hw1⟩))
    go_ret
    exact ⟨rfl, hw1⟩
  · have hd : decide (n < 0) = false := by simpa using hn
    have hI : istr 10 n = str 10 n.natAbs := istr_pos (by omega)
    rw [hI]
    generalize str 10 n.natAbs = D at *
    generalize n.natAbs = u at *
    have HT := Lib.hid hT
    have HZ := Lib.hid hZ
    clear hT hZ hI
    go_enter Tryd.func37, Tryd.ntmps37
    go_wp2_with (first | (go_at_call 36; refine (HZ.out _).mono ?_; rintro e w' ⟨rfl, rfl⟩) | (go_at_call 46; refine (HT.out _).mono ?_; rintro e w1 ⟨rfl, hw1⟩))
    go_ret
    exact ⟨rfl, hw1⟩

set_option maxHeartbeats 1000000 in
set_option maxRecDepth 100000 in
theorem specAppend_any (w : World) (a0 : Option Addr) (n cap : Nat) (xs : List Int) (hn : xs.length = n) (lc : n ≤ cap) (hin : IntsIn w a0 xs) (hwf : ∀ x ∈ xs, (Lit.int .i64 x).wf = true) (hlim : n ≤ 1048576) :
    Calls Tryd.prog 13 #[.slice a0 n cap] w fun e w' => ∃ v, e = .returned v ∧ w'.ownsRow w.heap.size 5 1 v (blanks xs).length (bCells (blanks xs)) ∧ Below w.heap.size w w' := by
  have HN := Lib.hid hn
  have HIN := Lib.hid hin
  have HWF := Lib.hid hwf
  clear hn hin hwf
  go_enter Tryd.func13, Tryd.ntmps13
  go_wp2
  go_loopw [3, 4] (fun vo vj wr => ∃ j : Nat, j ≤ n ∧ vj = .int .i64 j ∧ wr.ownsRow w.heap.size 5 1 vo (blanks (xs.take j)).length (bCells (blanks (xs.take j))) ∧ Below w.heap.size w wr) (fun _ vj _ => n - (intOf vj).toNat)
  case atStart => exact ⟨0, by omega, rfl, World.ownsRow_nil _ _ _ _, Below.refl _ _⟩
  case round =>
    obtain ⟨j, hj, rfl, o1, hbel⟩ := hrel
    by_cases hlt : j < n
    · have hjx : j < xs.length := by rw [HN.out]; exact hlt
      obtain ⟨blk, off, rfl, hcell⟩ := (HIN.out.on hbel) j hjx
      have hx := wf_i64 (HWF.out _ (List.getElem_mem hjx))
      have hl1 := blanks_len (xs.take j) (fun x hx => HWF.out x (List.mem_of_mem_take hx))
      have hl2 : (xs.take j).length ≤ j := by simp; omega
      have hl3 := itext_bd (b := 10) (by omega) hx.1 hx.2
      have hnext := blanks_take xs j hjx
      have hS := fun w1 => Signed_any xs[j] w1 hx.1 hx.2
      have hSs : (istr 10 xs[j]).size = (itext 10 xs[j]).length := bs_size _
      have hSc : Lib.strCells (istr 10 xs[j]) = bCells (itext 10 xs[j]) := by simp [Lib.strCells, istr, bs, bCells]
      generalize istr 10 xs[j] = S at *
      generalize hI : itext 10 xs[j] = I at *
      generalize xs[j] = x at *
      generalize hL : blanks (xs.take j) = L at *
      have hlen : L.length ≤ 69206016 := by omega
      have HS := Lib.hid hS
      have HX := Lib.hid hnext
      have HC := Lib.hid hSc
      have hs2 : S.size ≤ 65 := by omega
      clear hS hnext hI hL hjx hl1 hl2 hSc
      go_wp2_with (go_at_call 37; refine (HS.out _).mono ?_; rintro e w1 ⟨rfl, hw1⟩; refine Hid.out ?_)
      refine Lib.hid ?_
      have hbel1 := hbel.trans (hw1.mono hbel.size)
      have q0 := own_below o1 hw1
      obtain ⟨i0, hi, hz0, hz1, hz2⟩ := info_parts infoU8
      clear o1 hcell
      go_wp2_with (at_builtin; refine Lib.wpList_append_own_string _ rfl _ _ 23 9 rfl w.heap.size 5 i0 Tryd.underlying23 Tryd.underlying9 hi hz0 hz1 hz2 _ _ _ rfl q0 S rfl (by unfold maxLen; omega) (by omega) hbel1.size ?_; intro v1 w2 q1 hg2 _; refine Hid.out ?_)
      refine Lib.hid ?_
      rw [HC.out] at q1
      have hbel2 := hbel1.grown hg2 hbel1.size (fun k hk => (q0.lt k hk).1)
      obtain ⟨M, hM⟩ : ∃ M, M = L.length + S.size := ⟨_, rfl⟩
      rw [← hM] at q1
      have hM2 : M ≤ 69206081 := by omega
      clear hM q0 hg2
      go_wp2_with (at_builtin; refine append_one rfl _ _ Tryd.underlying23 infoU8 rfl rfl w.heap.size w _ (bCells L ++ bCells I) M rfl (q1.alloc _) (.int .u8 32) rfl w2.heap.size rfl (new_one _ _ _) (by omega) (by omega) (hbel2.alloc hbel2.size _) (Nat.le_refl _) ?_; intro v2 w3 r2 hb2 _; refine Hid.out ?_)
      refine Lib.hid ?_
      go_wp2
      refine ⟨⟨j + 1, by omega, by go_num, ?_, hb2⟩, ?_⟩
      · have hlen3 := r2.1
        rw [HX.out]
        have e1 : bCells (L ++ I ++ [32]) = bCells L ++ bCells I ++ [.int .u8 32] := by simp [bCells]
        rw [e1]
        have e2 : (L ++ I ++ [32]).length = M + 1 := by
          have := congrArg List.length e1
          rw [bCells_len] at this
          omega
        rw [e2]
        exact r2
      · simp [intOf]; omega
    · obtain rfl : j = n := by omega
      rw [List.take_of_length_le (by rw [HN.out]; omega)] at o1
      have O1 := Lib.hid o1
      clear o1
      go_wp2
      go_ret
      exact ⟨_, rfl, O1.out, hbel⟩
end Go.Proofs.YtenepfefpoiddaaDoor
