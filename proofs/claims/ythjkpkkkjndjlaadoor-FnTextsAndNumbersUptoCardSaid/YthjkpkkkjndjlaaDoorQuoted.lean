/- strconv.appendQuotedWith onto a buffer that the call owns and that has room, for every text. -/
import Derived.Test.YthjkpkkkjndjlaaDoorB
import Derived.Test.YthjkpkkkjndjlaaDoorQ
import Derived.Test.YthjkpkkkjndjlaaDoorShelf
import Derived.Test.YthjkpkkkjndjlaaDoorDigs
import Derived.Lib.BufSteps
import Derived.Lib.QuoteHex
import Derived.Laws.DeepStrings4
import Derived.WalkKit
import Derived.WalkLawsBesides
import Derived.WalkSpells
import Derived.BigCall
import Derived.BigGuard
import Derived.BigGuardPart
import Derived.Outline
import Derived.Shelf.Strconv.Quote
import Derived.Lib.ValidAsc
namespace Go.Proofs.YthjkpkkkjndjlaaDoor
open Go.RowKit

/-- What appendEscapedRune does for one kind of quoting, over whatever buffer that the call owns. -/
def EscOk (p : Int → Bool) (asc gr : Bool) (W0 : World) : Prop := ∀ (v : Value) (n : Nat) (xs : List Value) (r : Int) (w : World), Lib.OwnBuf W0.heap.size 5 v n xs W0 w → n + 10 ≤ 140737488355328 → Lib.validRune r = true →
  Calls Tryd.prog 68 #[v, .int .i32 r, .int .u8 34, .bool asc, .bool gr] w fun e w' => ∃ v', e = .returned v' ∧ Lib.OwnBuf W0.heap.size 5 v' (n + (escR p 34 r).length) (xs ++ Lib.intCells (escR p 34 r)) W0 w'
/-- utf8's tables lie as they are laid, whatever is done from W0's blocks on. -/
def Utf8Ok (W0 : World) : Prop := ∀ w', Below W0.heap.size W0 w' → Lib.Utf8Tabs 3 4 w'

theorem bs_rest (l : List UInt8) (K : Nat) : (bs l).extract K (bs l).size = bs (l.drop K) := by
  rw [← bs_eta ((bs l).extract K (bs l).size), Lib.ext_list]
  simp [bs]
theorem decodeGo_bs (l : List UInt8) (h : l ≠ []) : Lib.decodeGo (bs l) = Lib.decodeL l := by
  have : ¬ (bs l).size = 0 := by
    rw [bs_size]
    intro e
    exact h (List.length_eq_zero_iff.1 e)
  simp only [Lib.decodeGo, if_neg this]
  rfl
def strOfV : Value → ByteArray | .string s => s | _ => ByteArray.empty

set_option maxHeartbeats 4000000 in
set_option maxRecDepth 1000000 in
theorem appendQuoted_room (p : Int → Bool) (asc gr : Bool) (a : Option Addr) (c : Nat) (xs : List Value) (l : List UInt8) (W0 w : World)
    (hb : Lib.OwnBuf W0.heap.size 5 (.slice a xs.length c) xs.length xs W0 w) (hroom : xs.length + l.length ≤ c) (hc : c ≤ 9223372036854775807) (hlen : xs.length + 10 * l.length + 12 ≤ 140737488355328)
    (hesc : EscOk p asc gr W0) (hU : Utf8Ok W0) :
    Calls Tryd.prog 48 #[.slice a xs.length c, .string (bs l), .int .u8 34, .bool asc, .bool gr] w (BufPost W0.heap.size W0 (xs ++ Lib.intCells (qZ p l))) := by
  obtain ⟨i0, hi, hz0, hz1, hz2⟩ := info_parts infoU8
  obtain ⟨B, hB⟩ : ∃ B, B = W0.heap.size := ⟨_, rfl⟩
  have HB := Lib.hid hB
  have HE := Lib.hid hesc
  have HU := Lib.hid hU
  rw [← hB] at hb ⊢
  clear hB hesc hU
  obtain ⟨n, hn⟩ : ∃ n, n = xs.length := ⟨_, rfl⟩
  rw [← hn] at hb hroom hlen ⊢
  have HN := Lib.hid hn
  clear hn
  have hsl : (bs l).size = l.length := bs_size l
  have hwc : wrap64 ((c : Int) - (n : Int)) = (c : Int) - (n : Int) := by unfold wrap64; omega
  have hroom' : ¬ ((c : Int) - (n : Int) < (l.length : Int)) := by omega
  go_enter Tryd.func48, Tryd.ntmps48
  go_big_wp2_with (at_builtin; first
      | (refine Lib.wpList_append_byte rfl _ _ 40 rfl B 5 i0 Tryd.underlying40 hi hz0 hz1 hz2 _ _ _ rfl W0 _ _ (by assumption) rfl (by first | omega | (simp only [Lib.size_two]; omega)) ?_; intro _ _ hb)
      | (refine Lib.wpList_append_text rfl _ _ 40 9 rfl B 5 i0 Tryd.underlying40 Tryd.underlying9 hi hz0 hz1 hz2 _ _ _ rfl W0 (by assumption) _ rfl (by first | omega | (simp only [Lib.size_two]; omega)) ?_; intro _ _ hb))
  have Hb0 := hb
  go_loopw [0, 1, 12, 13] (fun vb vs _ _ wr => ∃ (rest : List UInt8) (acc : List Int) (f : Nat), vs = .string (bs rest) ∧ rest.length ≤ f ∧ Hid (Lib.OwnBuf B 5 vb (n + 1 + acc.length) (xs ++ [.int .u8 34] ++ Lib.intCells acc) W0 wr) ∧ Hid (acc ++ qFrom p f rest = qFrom p l.length l) ∧ acc.length + 10 * rest.length ≤ 10 * l.length)
    (fun _ vs _ _ _ => (strOfV vs).size)
  case atStart => exact ⟨l, [], l.length, rfl, Nat.le_refl _, by simpa [Hid, Lib.intCells] using Hb0, rfl, by simp⟩
  case round =>
    obtain ⟨rest, acc, f, rfl, hf, hbr, hq, hl⟩ := hrel
    have hBel : Below W0.heap.size W0 wr := by have := hbr.out.2.1; rwa [HB.out] at this
    have hrs : (bs rest).size = rest.length := bs_size rest
    by_cases h0 : rest = []
    · subst h0
      have hbx := hbr.out
      have hlenA : n + 1 + acc.length + 10 ≤ 140737488355328 := by simp at hl; omega
      have hz0' : (bs []).size = 0 := rfl
      clear hrs
      go_big_wp2_with (at_builtin; first
      | (refine Lib.wpList_append_byte rfl _ _ 40 rfl B 5 i0 Tryd.underlying40 hi hz0 hz1 hz2 _ _ _ rfl W0 _ _ (by assumption) rfl (by first | omega | (simp only [Lib.size_two]; omega)) ?_; intro _ _ hb)
      | (refine Lib.wpList_append_text rfl _ _ 40 9 rfl B 5 i0 Tryd.underlying40 Tryd.underlying9 hi hz0 hz1 hz2 _ _ _ rfl W0 (by assumption) _ rfl (by first | omega | (simp only [Lib.size_two]; omega)) ?_; intro _ _ hb))
      go_ret
      refine ⟨_, rfl, ?_⟩
      have hqe : qFrom p l.length l = acc := by rw [← hq.out, qFrom_nil]; simp
      have hcells : xs ++ Lib.intCells (qZ p l) = xs ++ [.int .u8 34] ++ Lib.intCells acc ++ [.int .u8 34] := by simp [qZ, hqe, Lib.intCells]
      have hlenq : (xs ++ Lib.intCells (qZ p l)).length = n + 1 + acc.length + 1 := by rw [hcells, HN.out]; simp [Lib.intCells]; omega
      rw [hlenq, hcells]
      exact hb
    · have h0p : 0 < rest.length := List.length_pos_iff.2 h0
      have h0' : (0 : Int) < (rest.length : Int) := by omega
      have h0s : 0 < (bs rest).size := by omega
      obtain ⟨R, hR⟩ : ∃ R, R = (Lib.decodeL rest).1 := ⟨_, rfl⟩
      obtain ⟨K, hK⟩ : ∃ K, K = (Lib.decodeL rest).2 := ⟨_, rfl⟩
      have hK1 : 1 ≤ K := by rw [hK]; exact decodeL_pos _
      have hK2 : K ≤ rest.length := by rw [hK]; exact Lib.decodeL_le _ h0
      have hRv : Lib.validRune (R : Int) = true := by rw [hR]; exact decodeL_valid _
      have cD : Calls Tryd.prog 57 #[.string (bs rest)] wr fun e w' => e = .returned (.tuple #[.int .i32 R, .int .i64 K]) ∧ Below wr.heap.size wr w' := by
        have := Tryd.utf8_DecodeRuneInString (bs rest) wr (HU.out _ hBel)
        rwa [decodeGo_bs rest h0, ← hR, ← hK] at this
      have HR := Lib.hid hR
      have HK := Lib.hid hK
      have HRV := Lib.hid hRv
      have CD := Lib.hid cD
      have hqs := qFrom_step p f rest h0 hf
      rw [← hK] at hqs
      have HQS := Lib.hid hqs
      have hext := bs_rest rest K
      rw [hrs] at hext
      have hsl := qStep_len p rest
      have hdl : (rest.drop K).length = rest.length - K := by simp
      have HDL := Lib.hid hdl
      clear hR hK hRv cD hqs hdl
      go_big_wp2_with fail
      refine CD.out.mono ?_
      rintro e w1 ⟨rfl, hbl⟩
      have hb1 := buf_below hbr.out hbl
      have hlenA : n + 1 + acc.length + 10 ≤ 140737488355328 := by omega
      by_cases hbad : K = 1 ∧ R = 65533
      · obtain ⟨rfl, rfl⟩ := hbad
        have hb0 : bad rest := ⟨HR.out.symm, HK.out.symm⟩
        have hst : qStep p rest = [92, 120, Lib.hexDigit (((bs rest)[0]'h0s).toNat / 16), Lib.hexDigit (((bs rest)[0]'h0s).toNat % 16)] := by
          rw [qStep, if_pos hb0]
          have e : rest.getD 0 0 = (bs rest)[0]'h0s := by
            rw [bs_get]
            simp [List.getD_eq_getElem?_getD, List.getElem?_eq_getElem h0p]
          rw [e]
        have hx255 := UInt8.toNat_lt ((bs rest)[0]'h0s)
        have hx16 : 0 ≤ ((((bs rest)[0]'h0s).toNat : Nat) : Int) / 16 ∧ ((((bs rest)[0]'h0s).toNat : Nat) : Int) / 16 < 16 := by omega
        have HST := Lib.hid hst
        clear hst hb0
        go_big_wp2_with (at_builtin; first
      | (refine Lib.wpList_append_byte rfl _ _ 40 rfl B 5 i0 Tryd.underlying40 hi hz0 hz1 hz2 _ _ _ rfl W0 _ _ (by assumption) rfl (by first | omega | (simp only [Lib.size_two]; omega)) ?_; intro _ _ hb)
      | (refine Lib.wpList_append_text rfl _ _ 40 9 rfl B 5 i0 Tryd.underlying40 Tryd.underlying9 hi hz0 hz1 hz2 _ _ _ rfl W0 (by assumption) _ rfl (by first | omega | (simp only [Lib.size_two]; omega)) ?_; intro _ _ hb))
        refine ⟨⟨rest.drop 1, acc ++ qStep p rest, f - 1, ?_, ?_, ?_, ?_, ?_⟩, ?_⟩
        · first | rfl | rw [hext] | rw [List.drop_one]
        · rw [HDL.out]; omega
        · show Lib.OwnBuf _ _ _ _ _ _ _
          rw [HST.out]
          simpa [Lib.intCells, Lib.strCells, Lib.size_two, Lib.lowerhex_at, List.append_assoc, Nat.add_assoc] using hb
        · show _ = _
          rw [← hq.out, HQS.out, List.append_assoc]
        · rw [List.length_append, HDL.out]; omega
        · simp only [strOfV, bs_size]
          first | omega | (rw [HDL.out]; omega) | (rw [List.length_tail]; omega)
      · have hst : qStep p rest = escR p 34 (R : Int) := by
          rw [qStep, if_neg (fun hb0 => hbad ⟨by rw [HK.out]; exact hb0.2, by rw [HR.out]; exact hb0.1⟩), ← HR.out]
        have HST := Lib.hid hst
        have cE := HE.out u0 _ _ (R : Int) w1 (by rw [← HB.out]; exact hb1) hlenA HRV.out
        rw [← HB.out] at cE
        have CE := Lib.hid cE
        clear hst cE
        by_cases hK1e : K = 1
        · subst hK1e
          have hR' : ((R : Int) == 65533) = false := by simp; omega
          go_big_wp2_with (go_at_call 68; refine CE.out.mono ?_; rintro e w2 ⟨v2, rfl, hb2⟩)
          refine ⟨⟨rest.drop 1, acc ++ qStep p rest, f - 1, ?_, ?_, ?_, ?_, ?_⟩, ?_⟩
          · first | rfl | rw [hext] | rw [List.drop_one]
          · rw [HDL.out]; omega
          · show Lib.OwnBuf _ _ _ _ _ _ _
            rw [HST.out]
            simpa [Lib.intCells, List.append_assoc, Nat.add_assoc] using hb2
          · show _ = _
            rw [← hq.out, HQS.out, List.append_assoc]
          · rw [List.length_append, HDL.out]; omega
          · simp only [strOfV, bs_size]
            first | omega | (rw [HDL.out]; omega) | (rw [List.length_tail]; omega)
        · have hKb : ((K : Int) == 1) = false := by simp; omega
          go_big_wp2_with (go_at_call 68; refine CE.out.mono ?_; rintro e w2 ⟨v2, rfl, hb2⟩)
          refine ⟨⟨rest.drop K, acc ++ qStep p rest, f - 1, ?_, ?_, ?_, ?_, ?_⟩, ?_⟩
          · first | rfl | rw [hext] | rw [List.drop_one]
          · rw [HDL.out]; omega
          · show Lib.OwnBuf _ _ _ _ _ _ _
            rw [HST.out]
            simpa [Lib.intCells, List.append_assoc, Nat.add_assoc] using hb2
          · show _ = _
            rw [← hq.out, HQS.out, List.append_assoc]
          · rw [List.length_append, HDL.out]; omega
          · simp only [strOfV, bs_size]
            first | omega | (rw [HDL.out]; omega) | (rw [List.length_tail]; omega)
end Go.Proofs.YthjkpkkkjndjlaaDoor
