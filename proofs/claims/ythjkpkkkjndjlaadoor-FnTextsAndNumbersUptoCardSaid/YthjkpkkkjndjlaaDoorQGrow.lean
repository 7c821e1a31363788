/- strconv.appendQuotedWith where the buffer has no room; AppendQuote, AppendQuoteToASCII. (Printed by qgrow.py out of the walk with room.) -/
import Derived.Test.YthjkpkkkjndjlaaDoorQuote
import Derived.Test.YthjkpkkkjndjlaaDoorFmtA
import Derived.Laws.CopyRow
import Derived.Laws.MakeOwn
namespace Go.Proofs.YthjkpkkkjndjlaaDoor
open Go.RowKit

theorem below_setRow' {B g : Nat} {w0 w : World} (hb : Below B w0 w) (hBg : B ≤ g) (cs : Array Value) : Below B w0 (w.setRow g cs) :=
  hb.trans ⟨rfl, rfl, rfl, by simp, fun k hk => setRow_other w g k cs (by omega)⟩
/-- make and copy: a greater row of the call's own with the same bytes. -/
theorem grow_copy (B : Nat) (W0 : World) (a : Option Addr) (n c m : Nat) (xs : List Value) (w : World) (hb : Lib.OwnBuf B 5 (.slice a n c) n xs W0 w) (hx1 : ∀ v ∈ xs, v.oneCell' = true) (hlim : n + m + 2 ≤ 140737488355328) :
    ∃ W1 W2, (Instr.makeSlice 40 (.int .i64 (n : Int)) (.int .i64 ((n : Int) + 1 + (m : Int) + 1))).run Tryd.prog w = .ok (.slice (some ⟨w.heap.size, 0, none⟩) n (n + m + 2)) W1 ∧
      (∀ ty, (Builtin.copy_ #[40, 40] ty #[.slice (some ⟨w.heap.size, 0, none⟩) n (n + m + 2), .slice a n c]).run Tryd.prog W1 = .ok (goInt n) W2) ∧
      Lib.OwnBuf B 5 (.slice (some ⟨w.heap.size, 0, none⟩) n (n + m + 2)) n xs W0 W2 := by
  obtain ⟨i0, hi, hz0, hz1, hz2⟩ := info_parts infoU8
  have hxl : xs.length = n := by have := hb.1.1; omega
  have hmk := run_make (P := Tryd.prog) w 40 5 i0 (.int .u8 0) Tryd.underlying40 hi hz0 .i64 .i64 (n : Int) ((n : Int) + 1 + (m : Int) + 1) (by omega) (by omega) (by rw [hz2]; omega) (by omega)
  rw [show ((n : Int) + 1 + (m : Int) + 1).toNat = n + m + 2 by omega, Int.toNat_natCast, hz1, Nat.mul_one] at hmk
  obtain ⟨cur, hcur⟩ : ∃ cur, cur = madeCells (Value.int .u8 0).cells (n + m + 2) := ⟨_, rfl⟩
  have hcs : cur.size = n + m + 2 := by rw [hcur, size_madeCells]
  rw [← hcur] at hmk
  clear hcur
  have hnew : (w.alloc (.cells cur 5)).heap[w.heap.size]? = some (.cells cur 5 (0, 0)) := heap_alloc_new w _
  have hbel : Below B W0 (w.alloc (.cells cur 5)) := hb.2.1.alloc hb.2.2 _
  rcases hb.1.2 with ⟨hv, hn0⟩ | ⟨g, cap, cu, fz, hv, hBg, hg, hfz, hnc, hcm, hcz, htk⟩
  · simp only [Value.slice.injEq] at hv
    obtain ⟨rfl, _, rfl⟩ := hv
    subst hn0
    obtain rfl : xs = [] := List.eq_nil_of_length_eq_zero hxl
    refine ⟨_, _, hmk, fun ty => run_copy_nil (P := Tryd.prog) _ 40 40 ty 5 ⟨w.heap.size, 0, none⟩ 0 _ Tryd.underlying40 (by rw [hi]; rfl), ?_⟩
    exact ⟨⟨rfl, .inr ⟨w.heap.size, _, cur, (0, 0), rfl, hb.2.2, hnew, by simp, by omega, by unfold maxLen; omega, by omega, by simp⟩⟩, hbel, Nat.le_trans hb.2.2 (by simp)⟩
  · simp only [Value.slice.injEq] at hv
    obtain ⟨rfl, _, rfl⟩ := hv
    have hown1 := hb.1.alloc (.cells cur 5)
    have hcp := fun ty => run_copy_row (P := Tryd.prog) (w.alloc (.cells cur 5)) 40 40 ty 5 w.heap.size 0 n (n + m + 2) ⟨g, 0, none⟩ n c cur 5 xs Tryd.underlying40 (by rw [hi]; simp [hz1]) hnew (by rw [hxl]; exact (Nat.min_self n).symm) (hown1.cells rfl) (by omega) hx1
    rw [hxl] at hcp
    refine ⟨_, _, hmk, hcp, ?_⟩
    have hst := setRow_heap (w.alloc (.cells cur 5)) w.heap.size cur (cur.toList.take 0 ++ xs ++ cur.toList.drop (0 + n)).toArray 5 (0, 0) hnew
    refine ⟨⟨by omega, .inr ⟨w.heap.size, _, _, (0, 0), rfl, hb.2.2, hst, by simp, by omega, by unfold maxLen; omega, ?_, ?_⟩⟩, below_setRow' hbel hb.2.2 _, ?_⟩
    · simp [hcs, hxl]; omega
    · simp [hxl]
    · rw [size_setRow]
      exact Nat.le_trans hb.2.2 (by simp)

set_option maxHeartbeats 4000000 in
set_option maxRecDepth 1000000 in
theorem appendQuoted_grow (p : Int → Bool) (asc gr : Bool) (a : Option Addr) (c : Nat) (xs : List Value) (l : List UInt8) (W0 w : World)
    (hb : Lib.OwnBuf W0.heap.size 5 (.slice a xs.length c) xs.length xs W0 w) (hroom : c < xs.length + l.length) (hx1 : ∀ v ∈ xs, v.oneCell' = true) (hc : c ≤ 9223372036854775807) (hlen : xs.length + 10 * l.length + 12 ≤ 140737488355328)
    (hesc : EscOk p asc gr W0) (hU : Utf8Ok W0) :
    Calls Tryd.prog 48 #[.slice a xs.length c, .string (bs l), .int .u8 34, .bool asc, .bool gr] w (BufPost W0.heap.size W0 (xs ++ Lib.intCells (qZ p l))) := by
  obtain ⟨i0, hi, hz0, hz1, hz2⟩ := info_parts infoU8
  obtain ⟨B, hB⟩ : ∃ B, B = W0.heap.size := ⟨_, rfl⟩
  have HB := Lib.hid hB
  have HE := Lib.hid hesc
  have HU := Lib.hid hU
  rw [← hB] at hb ⊢
  clear hB hesc hU
  obtain ⟨n, hn⟩ : ∃ n, n = xs.length := ⟨_, rfl⟩
  rw [← hn] at hb hroom hlen ⊢
  have HN := Lib.hid hn
  clear hn
  have hsl : (bs l).size = l.length := bs_size l
  have hwc : wrap64 ((c : Int) - (n : Int)) = (c : Int) - (n : Int) := by unfold wrap64; omega
  have hroom' : ((c : Int) - (n : Int) < (l.length : Int)) := by omega
  obtain ⟨W1, W2, hmk, hcp, hb⟩ := grow_copy B W0 a n c l.length xs w hb hx1 (by omega)
  clear hx1
  go_enter Tryd.func48, Tryd.ntmps48
  go_big_wp2_with (at_builtin; first
      | (refine Lib.wpList_append_byte rfl _ _ 40 rfl B 5 i0 Tryd.underlying40 hi hz0 hz1 hz2 _ _ _ rfl W0 _ _ (by assumption) rfl (by first | omega | (simp only [Lib.size_two]; omega)) ?_; intro _ _ hb)
      | (refine Lib.wpList_append_text rfl _ _ 40 9 rfl B 5 i0 Tryd.underlying40 Tryd.underlying9 hi hz0 hz1 hz2 _ _ _ rfl W0 (by assumption) _ rfl (by first | omega | (simp only [Lib.size_two]; omega)) ?_; intro _ _ hb))
  have Hb0 := hb
  go_loopw [0, 1, 12, 13] (fun vb vs _ _ wr => ∃ (rest : List UInt8) (acc : List Int) (f : Nat), vs = .string (bs rest) ∧ rest.length ≤ f ∧ Hid (Lib.OwnBuf B 5 vb (n + 1 + acc.length) (xs ++ [.int .u8 34] ++ Lib.intCells acc) W0 wr) ∧ Hid (acc ++ qFrom p f rest = qFrom p l.length l) ∧ acc.length + 10 * rest.length ≤ 10 * l.length)
    (fun _ vs _ _ _ => (strOfV vs).size)
  case atStart => exact ⟨l, [], l.length, rfl, Nat.le_refl _, by simpa [Hid, Lib.intCells] using Hb0, rfl, by simp⟩
  case round =>
    obtain ⟨rest, acc, f, rfl, hf, hbr, hq, hl⟩ := hrel
    have hBel : Below W0.heap.size W0 wr := by have := hbr.out.2.1; rwa [HB.out] at this
    have hrs : (bs rest).size = rest.length := bs_size rest
    by_cases h0 : rest = []
    · subst h0
      have hbx := hbr.out
      have hlenA : n + 1 + acc.length + 10 ≤ 140737488355328 := by simp at hl; omega
      have hz0' : (bs []).size = 0 := rfl
      clear hrs
      go_big_wp2_with (at_builtin; first
      | (refine Lib.wpList_append_byte rfl _ _ 40 rfl B 5 i0 Tryd.underlying40 hi hz0 hz1 hz2 _ _ _ rfl W0 _ _ (by assumption) rfl (by first | omega | (simp only [Lib.size_two]; omega)) ?_; intro _ _ hb)
      | (refine Lib.wpList_append_text rfl _ _ 40 9 rfl B 5 i0 Tryd.underlying40 Tryd.underlying9 hi hz0 hz1 hz2 _ _ _ rfl W0 (by assumption) _ rfl (by first | omega | (simp only [Lib.size_two]; omega)) ?_; intro _ _ hb))
      go_ret
      refine ⟨_, rfl, ?_⟩
      have hqe : qFrom p l.length l = acc := by rw [← hq.out, qFrom_nil]; simp
      have hcells : xs ++ Lib.intCells (qZ p l) = xs ++ [.int .u8 34] ++ Lib.intCells acc ++ [.int .u8 34] := by simp [qZ, hqe, Lib.intCells]
      have hlenq : (xs ++ Lib.intCells (qZ p l)).length = n + 1 + acc.length + 1 := by rw [hcells, HN.out]; simp [Lib.intCells]; omega
      rw [hlenq, hcells]
      exact hb
    · have h0p : 0 < rest.length := List.length_pos_iff.2 h0
      have h0' : (0 : Int) < (rest.length : Int) := by omega
      have h0s : 0 < (bs rest).size := by omega
      obtain ⟨R, hR⟩ : ∃ R, R = (Lib.decodeL rest).1 := ⟨_, rfl⟩
      obtain ⟨K, hK⟩ : ∃ K, K = (Lib.decodeL rest).2 := ⟨_, rfl⟩
      have hK1 : 1 ≤ K := by rw [hK]; exact decodeL_pos _
      have hK2 : K ≤ rest.length := by rw [hK]; exact Lib.decodeL_le _ h0
      have hRv : Lib.validRune (R : Int) = true := by rw [hR]; exact decodeL_valid _
      have cD : Calls Tryd.prog 57 #[.string (bs rest)] wr fun e w' => e = .returned (.tuple #[.int .i32 R, .int .i64 K]) ∧ Below wr.heap.size wr w' := by
        have := Tryd.utf8_DecodeRuneInString (bs rest) wr (HU.out _ hBel)
        rwa [decodeGo_bs rest h0, ← hR, ← hK] at this
      have HR := Lib.hid hR
      have HK := Lib.hid hK
      have HRV := Lib.hid hRv
      have CD := Lib.hid cD
      have hqs := qFrom_step p f rest h0 hf
      rw [← hK] at hqs
      have HQS := Lib.hid hqs
      have hext := bs_rest rest K
      rw [hrs] at hext
      have hsl := qStep_len p rest
      have hdl : (rest.drop K).length = rest.length - K := by simp
      have HDL := Lib.hid hdl
      clear hR hK hRv cD hqs hdl
      go_big_wp2_with fail
      refine CD.out.mono ?_
      rintro e w1 ⟨rfl, hbl⟩
      have hb1 := buf_below hbr.out hbl
      have hlenA : n + 1 + acc.length + 10 ≤ 140737488355328 := by omega
      by_cases hbad : K = 1 ∧ R = 65533
      · obtain ⟨rfl, rfl⟩ := hbad
        have hb0 : bad rest := ⟨HR.out.symm, HK.out.symm⟩
        have hst : qStep p rest = [92, 120, Lib.hexDigit (((bs rest)[0]'h0s).toNat / 16), Lib.hexDigit (((bs rest)[0]'h0s).toNat % 16)] := by
          rw [qStep, if_pos hb0]
          have e : rest.getD 0 0 = (bs rest)[0]'h0s := by
            rw [bs_get]
            simp [List.getD_eq_getElem?_getD, List.getElem?_eq_getElem h0p]
          rw [e]
        have hx255 := UInt8.toNat_lt ((bs rest)[0]'h0s)
        have hx16 : 0 ≤ ((((bs rest)[0]'h0s).toNat : Nat) : Int) / 16 ∧ ((((bs rest)[0]'h0s).toNat : Nat) : Int) / 16 < 16 := by omega
        have HST := Lib.hid hst
        clear hst hb0
        go_big_wp2_with (at_builtin; first
      | (refine Lib.wpList_append_byte rfl _ _ 40 rfl B 5 i0 Tryd.underlying40 hi hz0 hz1 hz2 _ _ _ rfl W0 _ _ (by assumption) rfl (by first | omega | (simp only [Lib.size_two]; omega)) ?_; intro _ _ hb)
      | (refine Lib.wpList_append_text rfl _ _ 40 9 rfl B 5 i0 Tryd.underlying40 Tryd.underlying9 hi hz0 hz1 hz2 _ _ _ rfl W0 (by assumption) _ rfl (by first | omega | (simp only [Lib.size_two]; omega)) ?_; intro _ _ hb))
        refine ⟨⟨rest.drop 1, acc ++ qStep p rest, f - 1, ?_, ?_, ?_, ?_, ?_⟩, ?_⟩
        · first | rfl | rw [hext] | rw [List.drop_one]
        · rw [HDL.out]; omega
        · show Lib.OwnBuf _ _ _ _ _ _ _
          rw [HST.out]
          simpa [Lib.intCells, Lib.strCells, Lib.size_two, Lib.lowerhex_at, List.append_assoc, Nat.add_assoc] using hb
        · show _ = _
          rw [← hq.out, HQS.out, List.append_assoc]
        · rw [List.length_append, HDL.out]; omega
        · simp only [strOfV, bs_size]
          first | omega | (rw [HDL.out]; omega) | (rw [List.length_tail]; omega)
      · have hst : qStep p rest = escR p 34 (R : Int) := by
          rw [qStep, if_neg (fun hb0 => hbad ⟨by rw [HK.out]; exact hb0.2, by rw [HR.out]; exact hb0.1⟩), ← HR.out]
        have HST := Lib.hid hst
        have cE := HE.out u0 _ _ (R : Int) w1 (by rw [← HB.out]; exact hb1) hlenA HRV.out
        rw [← HB.out] at cE
        have CE := Lib.hid cE
        clear hst cE
        by_cases hK1e : K = 1
        · subst hK1e
          have hR' : ((R : Int) == 65533) = false := by simp; omega
          go_big_wp2_with (go_at_call 68; refine CE.out.mono ?_; rintro e w2 ⟨v2, rfl, hb2⟩)
          refine ⟨⟨rest.drop 1, acc ++ qStep p rest, f - 1, ?_, ?_, ?_, ?_, ?_⟩, ?_⟩
          · first | rfl | rw [hext] | rw [List.drop_one]
          · rw [HDL.out]; omega
          · show Lib.OwnBuf _ _ _ _ _ _ _
            rw [HST.out]
            simpa [Lib.intCells, List.append_assoc, Nat.add_assoc] using hb2
          · show _ = _
            rw [← hq.out, HQS.out, List.append_assoc]
          · rw [List.length_append, HDL.out]; omega
          · simp only [strOfV, bs_size]
            first | omega | (rw [HDL.out]; omega) | (rw [List.length_tail]; omega)
        · have hKb : ((K : Int) == 1) = false := by simp; omega
          go_big_wp2_with (go_at_call 68; refine CE.out.mono ?_; rintro e w2 ⟨v2, rfl, hb2⟩)
          refine ⟨⟨rest.drop K, acc ++ qStep p rest, f - 1, ?_, ?_, ?_, ?_, ?_⟩, ?_⟩
          · first | rfl | rw [hext] | rw [List.drop_one]
          · rw [HDL.out]; omega
          · show Lib.OwnBuf _ _ _ _ _ _ _
            rw [HST.out]
            simpa [Lib.intCells, List.append_assoc, Nat.add_assoc] using hb2
          · show _ = _
            rw [← hq.out, HQS.out, List.append_assoc]
          · rw [List.length_append, HDL.out]; omega
          · simp only [strOfV, bs_size]
            first | omega | (rw [HDL.out]; omega) | (rw [List.length_tail]; omega)

theorem appendQuoted_any (p : Int → Bool) (asc gr : Bool) (v : Value) (xs : List Value) (l : List UInt8) (W0 w : World)
    (hb : Lib.OwnBuf W0.heap.size 5 v xs.length xs W0 w) (hx1 : ∀ v ∈ xs, v.oneCell' = true) (hlen : xs.length + 10 * l.length + 12 ≤ 140737488355328)
    (hesc : EscOk p asc gr W0) (hU : Utf8Ok W0) :
    Calls Tryd.prog 48 #[v, .string (bs l), .int .u8 34, .bool asc, .bool gr] w (BufPost W0.heap.size W0 (xs ++ Lib.intCells (qZ p l))) := by
  obtain ⟨a, c, rfl, hc⟩ : ∃ a c, v = .slice a xs.length c ∧ c ≤ 9223372036854775807 := by
    rcases hb.1.2 with ⟨hv, hn⟩ | ⟨g, cap, cur, fz, hv, _, _, _, _, hm, _⟩
    · exact ⟨none, 0, by rw [hv, hn], by omega⟩
    · exact ⟨_, cap, hv, by unfold maxLen at hm; omega⟩
  by_cases hroom : xs.length + l.length ≤ c
  · exact appendQuoted_room p asc gr a c xs l W0 w hb hroom hc hlen hesc hU
  · exact appendQuoted_grow p asc gr a c xs l W0 w hb (by omega) hx1 hc hlen hesc hU

set_option maxRecDepth 100000 in
theorem AppendQuote_any (T : Lib.PrintTabs) (G : List Nat) (v : Value) (xs : List Value) (l : List UInt8) (W0 w : World) (hb : Lib.OwnBuf W0.heap.size 5 v xs.length xs W0 w) (hx1 : ∀ v ∈ xs, v.oneCell' = true) (hlen : xs.length + 10 * l.length + 12 ≤ 140737488355328) (hT : PrintOk T G W0) (hU : Utf8Ok W0) :
    Calls Tryd.prog 35 #[v, .string (bs l)] w (BufPost W0.heap.size W0 (xs ++ Lib.intCells (qZ (pr T G false false) l))) := by
  have HF := Lib.hid (appendQuoted_any (pr T G false false) false false v xs l W0 w hb hx1 hlen (escOk_P T G W0 hT) hU)
  clear hb hx1 hT hU
  go_enter Tryd.func35, Tryd.ntmps35
  go_wp2_with (go_at_call 48; refine HF.out.mono ?_; rintro e w' ⟨v', rfl, hb'⟩; refine Hid.out ?_)
  refine Lib.hid ?_
  have HB := Lib.hid hb'
  clear hb'
  go_wp2
  go_ret
  exact ⟨v', rfl, HB.out⟩
set_option maxRecDepth 100000 in
theorem AppendQuoteToASCII_any (T : Lib.PrintTabs) (G : List Nat) (v : Value) (xs : List Value) (l : List UInt8) (W0 w : World) (hb : Lib.OwnBuf W0.heap.size 5 v xs.length xs W0 w) (hx1 : ∀ v ∈ xs, v.oneCell' = true) (hlen : xs.length + 10 * l.length + 12 ≤ 140737488355328) (hU : Utf8Ok W0) :
    Calls Tryd.prog 36 #[v, .string (bs l)] w (BufPost W0.heap.size W0 (xs ++ Lib.intCells (qZ (pr T G true false) l))) := by
  have HF := Lib.hid (appendQuoted_any (pr T G true false) true false v xs l W0 w hb hx1 hlen (escOk_A T G W0) hU)
  clear hb hx1 hU
  go_enter Tryd.func36, Tryd.ntmps36
  go_wp2_with (go_at_call 48; refine HF.out.mono ?_; rintro e w' ⟨v', rfl, hb'⟩; refine Hid.out ?_)
  refine Lib.hid ?_
  have HB := Lib.hid hb'
  clear hb'
  go_wp2
  go_ret
  exact ⟨v', rfl, HB.out⟩
end Go.Proofs.YthjkpkkkjndjlaaDoor
