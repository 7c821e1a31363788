/- impl.AppendNumbers: the texts of numbers with a blank behind each, in a row of the call's own. -/
import Derived.Test.YtenepfefpoiddaaDoorPIntS
import Derived.Test.YtenepfefpoiddaaDoorRow
import Derived.Lib.AppendIntMem
namespace Go.Proofs.YtenepfefpoiddaaDoor
open Go.RowKit

theorem itoa_itext (n : Int) : Lib.itoa n = itext 10 n := by
  rw [Lib.itoa, itext, decDigits_text, decDigits_text]
  by_cases h : n < 0
  · rw [if_pos h, if_pos h]
  · rw [if_neg h, if_neg h, show n.toNat = n.natAbs by omega]
theorem byteCells_eq (l : List UInt8) : Lib.byteCells l = bCells l := rfl

/-- The bytes that AppendNumbers writes. -/
def blanks (xs : List Int) : List UInt8 := (xs.map fun x => itext 10 x ++ [32]).flatten
theorem blanks_snoc (l : List Int) (x : Int) : blanks (l ++ [x]) = blanks l ++ itext 10 x ++ [32] := by simp [blanks]
theorem blanks_cons (x : Int) (r : List Int) : blanks (x :: r) = itext 10 x ++ 32 :: blanks r := by simp [blanks]
theorem itext_bd {b : Nat} (hb : 2 ≤ b) {x : Int} (h0 : -9223372036854775808 ≤ x) (h1 : x ≤ 9223372036854775807) : 1 ≤ (itext b x).length ∧ (itext b x).length ≤ 65 := by
  have hl := digs_len hb 63 x.natAbs (by omega)
  have hp := digs_pos b x.natAbs
  unfold itext
  split
  · rw [List.length_cons, text_len]; omega
  · rw [text_len]; omega
theorem blanks_len : ∀ (xs : List Int), (∀ x ∈ xs, (Lit.int .i64 x).wf = true) → (blanks xs).length ≤ 66 * xs.length
  | [], _ => by simp [blanks]
  | x :: r, h => by
    have h1 := wf_i64 (h x (by simp))
    have h2 := itext_bd (b := 10) (by omega) h1.1 h1.2
    have h3 := blanks_len r (fun y hy => h y (by simp [hy]))
    rw [blanks_cons, List.length_append, List.length_cons, List.length_cons]
    omega
theorem blanks_take (xs : List Int) (j : Nat) (h : j < xs.length) : blanks (xs.take (j + 1)) = blanks (xs.take j) ++ itext 10 (xs[j]'h) ++ [32] := by
  rw [← List.take_append_getElem h, blanks_snoc]

set_option maxHeartbeats 1000000 in
set_option maxRecDepth 100000 in
theorem AppendNumbers_any (w : World) (a0 : Option Addr) (n cap : Nat) (xs : List Int) (hn : xs.length = n) (lc : n ≤ cap) (hin : IntsIn w a0 xs) (hwf : ∀ x ∈ xs, (Lit.int .i64 x).wf = true) (hlim : n ≤ 1048576) (B : Nat) (hE : Env B w) :
    Calls Tryd.prog 15 #[.slice a0 n cap] w fun e w' => ∃ v, e = .returned v ∧ w'.ownsRow w.heap.size 5 1 v (blanks xs).length (bCells (blanks xs)) ∧ Below w.heap.size w w' := by
  have HN := Lib.hid hn
  have HIN := Lib.hid hin
  have HWF := Lib.hid hwf
  clear hn hin hwf
  go_enter Tryd.func15, Tryd.ntmps15
  go_wp2
  go_loopw [3, 5, 8] (fun vo _ vj wr => ∃ j : Nat, j ≤ n ∧ vj = .int .i64 j ∧ wr.ownsRow w.heap.size 5 1 vo (blanks (xs.take j)).length (bCells (blanks (xs.take j))) ∧ Below w.heap.size w wr) (fun _ _ vj _ => n - (intOf vj).toNat)
  case atStart => exact ⟨0, by omega, rfl, World.ownsRow_nil _ _ _ _, Below.refl _ _⟩
  case round =>
    obtain ⟨j, hj, rfl, o1, hbel⟩ := hrel
    by_cases hlt : j < n
    · have hjx : j < xs.length := by rw [HN.out]; exact hlt
      obtain ⟨blk, off, rfl, hcell⟩ := (HIN.out.on hbel) j hjx
      have hx := wf_i64 (HWF.out _ (List.getElem_mem hjx))
      have hl1 := blanks_len (xs.take j) (fun x hx => HWF.out x (List.mem_of_mem_take hx))
      have hl2 : (xs.take j).length ≤ j := by simp; omega
      have hl3 := itext_bd (b := 10) (by omega) hx.1 hx.2
      have hnext := blanks_take xs j hjx
      have hT : Lib.TabBelow Tryd.prog w.heap.size wr "internal/strconv.uint64pow10" .u64 Lib.pow10Tab := fun w' h => hE.pow w' ((hbel.mono hE.le).trans (h.mono hE.le))
      have hA := Tryd.strconv_AppendInt_10 w.heap.size (blanks (xs.take j)).length xs[j] hx.1 hx.2 _ _ wr o1 hbel.size (by omega) hT
      rw [itoa_itext, byteCells_eq] at hA
      generalize hI : itext 10 xs[j] = I at *
      generalize xs[j] = x at *
      generalize hL : blanks (xs.take j) = L at *
      have hlen : L.length ≤ 69206016 := by omega
      have HA := Lib.hid hA
      have HX := Lib.hid hnext
      clear hA hnext hI hL hjx hl1 hl2 hT
      go_wp2_with (go_at_call 38; refine HA.out.mono ?_; rintro e w1 ⟨v1, rfl, q1, hb1, _⟩; refine Hid.out ?_)
      refine Lib.hid ?_
      have hbel1 := hbel.trans hb1
      clear o1 hcell
      obtain ⟨M, hM⟩ : ∃ M, M = L.length + I.length := ⟨_, rfl⟩
      rw [← hM] at q1
      have hM2 : M ≤ 69206081 := by omega
      clear hM
      go_wp2_with (at_builtin; refine append_one rfl _ _ Tryd.underlying23 infoU8 rfl rfl w.heap.size w _ (bCells L ++ bCells I) M rfl (q1.alloc _) (.int .u8 32) rfl w1.heap.size rfl (new_one _ _ _) (by omega) (by omega) (hbel1.alloc hbel1.size _) (Nat.le_refl _) ?_; intro v2 w2 r2 hb2 _; refine Hid.out ?_)
      refine Lib.hid ?_
      go_wp2
      refine ⟨⟨j + 1, by omega, by go_num, ?_, hb2⟩, ?_⟩
      · have hlen3 := r2.1
        rw [HX.out]
        have e1 : bCells (L ++ I ++ [32]) = bCells L ++ bCells I ++ [.int .u8 32] := by simp [bCells]
        rw [e1]
        have e2 : (L ++ I ++ [32]).length = M + 1 := by
          have := congrArg List.length e1
          rw [bCells_len] at this
          omega
        rw [e2]
        exact r2
      · simp [intOf]; omega
    · obtain rfl : j = n := by omega
      rw [List.take_of_length_le (by rw [HN.out]; omega)] at o1
      have O1 := Lib.hid o1
      clear o1
      go_wp2
      go_ret
      exact ⟨_, rfl, O1.out, hbel⟩
end Go.Proofs.YtenepfefpoiddaaDoor
