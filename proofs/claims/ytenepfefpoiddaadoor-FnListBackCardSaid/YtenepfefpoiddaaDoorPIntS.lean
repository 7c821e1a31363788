/- strconv.ParseInt, impl.ParseInt: what they make of the internal answer; the text of a number is read back. -/
import Derived.Test.YtenepfefpoiddaaDoorPInt
namespace Go.Proofs.YtenepfefpoiddaaDoor
open Go.RowKit

set_option maxRecDepth 100000 in
theorem sParseInt_ok0 (b : Nat) (x : Int) (S : ByteArray) (w : World)
    (HI : Hid (Calls Tryd.prog 53 #[.string S, .int .i64 b, .int .i64 64] w fun e w' => e = .returned (.tuple #[.int .i64 x, .nilIface]) ∧ Below w.heap.size w w')) :
    Calls Tryd.prog 43 #[.string S, .int .i64 b, .int .i64 64] w fun e w' => e = .returned (.tuple #[.int .i64 x, .nilIface]) ∧ Below w.heap.size w w' := by
  go_enter Tryd.func43, Tryd.ntmps43
  go_wp2_with (go_at_call 53; refine HI.out.mono ?_; rintro e w' ⟨rfl, hw⟩)
  go_ret2
  exact ⟨rfl, hw⟩

set_option maxRecDepth 100000 in
theorem ParseInt_ok0 (b : Nat) (x : Int) (S : ByteArray) (w : World)
    (HI : Hid (Calls Tryd.prog 53 #[.string S, .int .i64 b, .int .i64 64] w fun e w' => e = .returned (.tuple #[.int .i64 x, .nilIface]) ∧ Below w.heap.size w w')) :
    Calls Tryd.prog 25 #[.string S, .int .i64 b, .int .i64 64] w fun e w' => e = .returned (.tuple #[.int .i64 x, .int .i64 0]) ∧ Below w.heap.size w w' := by
  have H2 := Lib.hid (sParseInt_ok0 b x S w HI)
  clear HI
  go_enter Tryd.func25, Tryd.ntmps25
  go_wp2_with (first | (go_at_call 43; refine H2.out.mono ?_; rintro e w' ⟨rfl, hw⟩) | (go_at_call 41; refine (code_nil _).mono ?_; rintro e w' ⟨rfl, rfl⟩))
  go_ret2
  exact ⟨rfl, hw⟩

set_option maxRecDepth 100000 in
theorem sParseInt_range0 (b : Nat) (x : Int) (S : ByteArray) (hS : S.size ≤ 281474976710656) (ar ay : Addr) (w : World) (hE : Errs ar ay w)
    (HI : Hid (Calls Tryd.prog 53 #[.string S, .int .i64 b, .int .i64 64] w fun e w' => e = .returned (.tuple #[.int .i64 x, .iface 73 (.int .i64 1)]) ∧ Below w.heap.size w w')) :
    Calls Tryd.prog 43 #[.string S, .int .i64 b, .int .i64 64] w fun e w' => ∃ N, e = .returned (.tuple #[.int .i64 x, .iface 77 (.pointer (some ⟨N, 0, none⟩))]) ∧ w.heap.size ≤ N ∧ w'.cell? ⟨N, 2, none⟩ = some (.iface 108 (.pointer (some ar))) ∧ Below w.heap.size w w' := by
  go_enter Tryd.func43, Tryd.ntmps43
  go_wp2_with (go_at_call 53; refine HI.out.mono ?_; rintro e w1 ⟨rfl, hw⟩; refine Hid.out ?_)
  refine Lib.hid ?_
  have hE1 := hE.on hw
  have hv1 := hE1.vr
  go_wp2_with (go_at_call 50; refine (Tryd.strconv_toError_range _ S _ _ _ _ hS hv1 (Or.inr ⟨_, _, rfl⟩)).mono ?_; rintro e w2 ⟨N, rfl, hN, hc, hw2⟩)
  go_ret2
  refine ⟨N, rfl, Nat.le_trans hw.size hN, ?_, hw.trans (hw2.mono hw.size)⟩
  simp [World.cell?, hc]

set_option maxRecDepth 100000 in
theorem ParseInt_range0 (b : Nat) (x : Int) (S : ByteArray) (hS : S.size ≤ 281474976710656) (ar ay : Addr) (w : World) (hE : Errs ar ay w)
    (HI : Hid (Calls Tryd.prog 53 #[.string S, .int .i64 b, .int .i64 64] w fun e w' => e = .returned (.tuple #[.int .i64 x, .iface 73 (.int .i64 1)]) ∧ Below w.heap.size w w')) :
    Calls Tryd.prog 25 #[.string S, .int .i64 b, .int .i64 64] w fun e w' => e = .returned (.tuple #[.int .i64 x, .int .i64 2]) ∧ Below w.heap.size w w' := by
  have H2 := Lib.hid (sParseInt_range0 b x S hS ar ay w hE HI)
  clear HI
  go_enter Tryd.func25, Tryd.ntmps25
  go_wp2_with (go_at_call 43; refine H2.out.mono ?_; rintro e w1 ⟨N, rfl, hN, hc, hw⟩; refine Hid.out ?_)
  refine Lib.hid ?_
  have HC := Lib.hid (code_range N ar ay w1 (hE.on hw) hc)
  go_wp2_with (go_at_call 41; refine HC.out.mono ?_; rintro e w' ⟨rfl, rfl⟩)
  go_ret2
  exact ⟨rfl, hw⟩

set_option maxRecDepth 100000 in
theorem sParseInt_bad0 (b : Nat) (x : Int) (S : ByteArray) (hS : S.size ≤ 281474976710656) (ar ay : Addr) (w : World) (hE : Errs ar ay w)
    (HI : Hid (Calls Tryd.prog 53 #[.string S, .int .i64 b, .int .i64 64] w fun e w' => e = .returned (.tuple #[.int .i64 x, .iface 73 (.int .i64 2)]) ∧ Below w.heap.size w w')) :
    Calls Tryd.prog 43 #[.string S, .int .i64 b, .int .i64 64] w fun e w' => ∃ N, e = .returned (.tuple #[.int .i64 x, .iface 77 (.pointer (some ⟨N, 0, none⟩))]) ∧ w.heap.size ≤ N ∧ w'.cell? ⟨N, 2, none⟩ = some (.iface 108 (.pointer (some ay))) ∧ Below w.heap.size w w' := by
  go_enter Tryd.func43, Tryd.ntmps43
  go_wp2_with (go_at_call 53; refine HI.out.mono ?_; rintro e w1 ⟨rfl, hw⟩; refine Hid.out ?_)
  refine Lib.hid ?_
  have hE1 := hE.on hw
  have hv1 := hE1.vs
  go_wp2_with (go_at_call 50; refine (Tryd.strconv_toError_syntax _ S _ _ _ _ hS hv1 (Or.inr ⟨_, _, rfl⟩)).mono ?_; rintro e w2 ⟨N, rfl, hN, hc, hw2⟩)
  go_ret2
  refine ⟨N, rfl, Nat.le_trans hw.size hN, ?_, hw.trans (hw2.mono hw.size)⟩
  simp [World.cell?, hc]

set_option maxRecDepth 100000 in
theorem ParseInt_bad0 (b : Nat) (x : Int) (S : ByteArray) (hS : S.size ≤ 281474976710656) (ar ay : Addr) (w : World) (hE : Errs ar ay w)
    (HI : Hid (Calls Tryd.prog 53 #[.string S, .int .i64 b, .int .i64 64] w fun e w' => e = .returned (.tuple #[.int .i64 x, .iface 73 (.int .i64 2)]) ∧ Below w.heap.size w w')) :
    Calls Tryd.prog 25 #[.string S, .int .i64 b, .int .i64 64] w fun e w' => e = .returned (.tuple #[.int .i64 x, .int .i64 1]) ∧ Below w.heap.size w w' := by
  have H2 := Lib.hid (sParseInt_bad0 b x S hS ar ay w hE HI)
  clear HI
  go_enter Tryd.func25, Tryd.ntmps25
  go_wp2_with (go_at_call 43; refine H2.out.mono ?_; rintro e w1 ⟨N, rfl, hN, hc, hw⟩; refine Hid.out ?_)
  refine Lib.hid ?_
  have HC := Lib.hid (code_syntax N ar ay w1 (hE.on hw) hc)
  go_wp2_with (go_at_call 41; refine HC.out.mono ?_; rintro e w' ⟨rfl, rfl⟩)
  go_ret2
  exact ⟨rfl, hw⟩

/-- The text of a number is read back. -/
theorem ParseInt_istr (b : Nat) (n : Int) (hb : 2 ≤ b) (hb2 : b ≤ 36) (h0 : -9223372036854775808 ≤ n) (h1 : n ≤ 9223372036854775807) (w : World) :
    Calls Tryd.prog 25 #[.string (istr b n), .int .i64 b, .int .i64 64] w fun e w' => e = .returned (.tuple #[.int .i64 n, .int .i64 0]) ∧ Below w.heap.size w w' := by
  have hl := digs_len hb 63 n.natAbs (by omega)
  have hv := val_digs hb n.natAbs
  by_cases hn : n < 0
  · have hI := iParseInt_neg b (digs b n.natAbs) hb hb2 (digs_bd hb _) (digs_ne _ _) (by omega) (by omega) w
    rw [hv, show -((n.natAbs : Nat) : Int) = n by omega] at hI
    rw [istr, itext_neg hn]
    exact ParseInt_ok0 b n _ w (Lib.hid hI)
  · have hI := iParseInt_pos b (digs b n.natAbs) hb hb2 (digs_bd hb _) (digs_ne _ _) (by omega) (by omega) w
    rw [hv, show ((n.natAbs : Nat) : Int) = n by omega] at hI
    rw [istr, itext_pos (by omega)]
    exact ParseInt_ok0 b n _ w (Lib.hid hI)
end Go.Proofs.YtenepfefpoiddaaDoor
