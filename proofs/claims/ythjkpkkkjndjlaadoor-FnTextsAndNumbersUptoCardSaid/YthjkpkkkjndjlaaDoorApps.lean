/- strconv's AppendUint, AppendInt and AppendBool over a buffer of the call's own. -/
import Derived.Test.YthjkpkkkjndjlaaDoorFmtA
import Derived.Test.YthjkpkkkjndjlaaDoorIntF
namespace Go.Proofs.YthjkpkkkjndjlaaDoor
open Go.RowKit Go.Lib Go.Sort

theorem bufOn {B : Nat} {v : Value} {n : Nat} {xs : List Value} {W0 w w' : World} (h : Lib.OwnBuf B 5 v n xs W0 w) (hb : Below w.heap.size w w') : Lib.OwnBuf B 5 v n xs W0 w' :=
  ⟨h.1.kept (row := none) ⟨hb.os, hb.tape, hb.output, hb.size, fun j hj _ => hb.block j hj⟩ (by cases hv : v.ownBlock <;> simp), h.2.1.trans (hb.mono h.2.2), Nat.le_trans h.2.2 hb.size⟩
theorem strCells_b (s : ByteArray) : Lib.strCells s = bCells s.data.toList := rfl

set_option maxHeartbeats 2000000 in
set_option maxRecDepth 100000 in
theorem iAppendUint_10 (B B' : Nat) (W0 : World) (dv : Value) (dn : Nat) (dxs : List Value) (u : Nat) (w : World) (hu : u < 18446744073709551616) (hbuf : Lib.OwnBuf B 5 dv dn dxs W0 w) (hlim : dn + 65 ≤ 140737488355328) (hE : Env B' w) :
    Calls Tryd.prog 47 #[dv, .int .u64 u, .int .i64 10] w (BufPost B W0 (dxs ++ bCells (text 10 u))) := by
  obtain ⟨i0, hi, hz0, hz1, hz2⟩ := info_parts infoU8
  have hxl : dxs.length = dn := by have := hbuf.1.1; omega
  have HXL := Lib.hid hxl
  clear hxl
  by_cases h100 : u < 100
  · have hs2 : (⟨(Lib.decDigits u).toArray⟩ : ByteArray).size ≤ 20 := by
      have : (⟨(Lib.decDigits u).toArray⟩ : ByteArray).size = (digs 10 u).length := by rw [decDigits_text]; exact str_size 10 u
      have h2 := digs_len (b := 10) (by omega) 63 u (by omega)
      have h3 : u < 2 ^ (19 + 1) := by omega
      have h4 := digs_len (b := 10) (by omega) 19 u h3
      omega
    have hsc : Lib.strCells ⟨(Lib.decDigits u).toArray⟩ = bCells (text 10 u) := by rw [decDigits_text]; simp [Lib.strCells, bCells]
    generalize hT : (⟨(Lib.decDigits u).toArray⟩ : ByteArray) = T at *
    have HC := Tryd.internal_strconv_small u h100
    rw [hT] at HC
    have HCH := Lib.hid HC
    have HSC := Lib.hid hsc
    clear HC hsc hT
    go_enter Tryd.func47, Tryd.ntmps47
    go_wp2_with (go_at_call 50; refine (HCH.out _).mono ?_; rintro e w' ⟨rfl, rfl⟩; refine Hid.out ?_)
    refine Lib.hid ?_
    go_wp2_with (at_builtin; refine Lib.wpList_append_text rfl _ _ 40 9 rfl B 5 i0 Tryd.underlying40 Tryd.underlying9 hi hz0 hz1 hz2 _ _ _ rfl W0 hbuf _ rfl (by omega) ?_; intro v' w2 hb'; refine Hid.out ?_)
    refine Lib.hid ?_
    have HB := Lib.hid hb'
    clear hb'
    go_wp2
    go_ret
    refine ⟨v', rfl, ?_⟩
    have hb2 := HB.out
    rw [HSC.out] at hb2
    have e1 : (dxs ++ bCells (text 10 u)).length = dn + T.size := by have := hb2.1.1; omega
    rw [e1]
    exact hb2
  · have hnd20 : Lib.nDigits u ≤ 20 := by have := Lib.numDigits_eq u (by omega) hu; split at this <;> omega
    have hsl := slice24 w.heap.size (Lib.nDigits u) (by omega)
    have hz := zero24
    have hH0 := Lib.holds_zero0 w 65 (Lib.nDigits u) (by omega)
    have hfmt := Tryd.internal_strconv_formatBase10 w.heap.size 0 24 u (Array.replicate (Lib.nDigits u) 0) (w.alloc (.cells Lib.zeros24 65)) hH0 (by rw [Array.size_replicate]; exact Lib.lt_pow_nDigits u) hu (by rw [Array.size_replicate]; omega)
    rw [Array.size_replicate] at hfmt
    have HH0 := Lib.hid hH0
    have HF := Lib.hid hfmt
    have hdl := Lib.decDigits_length u
    rw [decDigits_text] at hdl
    clear hH0 hfmt
    go_enter Tryd.func47, Tryd.ntmps47
    go_wp2_with (go_at_call 51; refine (Tryd.internal_strconv_numDigits u (by omega) hu _ (hE.pow _ ((Below.refl _ _).alloc hE.le _))).mono ?_; rintro e w' ⟨rfl, rfl⟩)
    go_at_call 52
    refine HF.out.mono ?_
    rintro e w1 ⟨rfl, k, v', dk, hw1, hF⟩
    have hcell : ∀ j (_ : j < (text 10 u).length), w1.cell? ((⟨w.heap.size, 0, none⟩ : Addr).add j) = some (.int .u8 ((text 10 u)[j].toNat : Int)) := by
      intro j hj
      have hj' : j < (Lib.decDigits u).length := by rw [decDigits_text]; exact hj
      have h1 := Lib.row_is_numeral hF j hj'
      have h2 := cell?_putRow (fun (b : UInt8) => Value.int .u8 (b.toNat : Int)) (w.alloc (.cells Lib.zeros24 65)) w.heap.size 0 _ dk HH0.out (by rw [hF.size, Array.size_replicate]) j (by rw [hF.size]; rw [Lib.decDigits_length] at hj'; exact hj')
      rw [hw1, Lib.add_plain, World.cell?_drewN, h2, ← h1]
      congr 3
      simp only [decDigits_text]
    have hbel : Below w.heap.size w w1 := by
      obtain ⟨os, eo⟩ := Lib.fin_at w (.cells Lib.zeros24 65) dk k 0
      rw [hw1, eo]
      exact Lib.below_grow _ _ (Nat.le_refl _) _ _
    have hb1 := bufOn hbuf hbel
    have HCL := Lib.hid hcell
    clear hw1 hF hcell HF HH0
    go_wp2_with (at_builtin; refine append_bufs rfl _ _ rfl B W0 dv dn dxs rfl hb1 ⟨w.heap.size, 0, none⟩ (Lib.nDigits u) 24 (text 10 u) rfl hdl HCL.out (by omega) ?_; intro v2 w2 hb'; refine Hid.out ?_)
    refine Lib.hid ?_
    have HB := Lib.hid hb'
    clear hb'
    go_wp2
    go_ret
    refine ⟨v2, rfl, ?_⟩
    have e1 : (dxs ++ bCells (text 10 u)).length = dn + Lib.nDigits u := by have := HB.out.1.1; omega
    rw [e1]
    exact HB.out

set_option maxHeartbeats 1000000 in
set_option maxRecDepth 100000 in
theorem iAppendUint_any (B B' : Nat) (W0 : World) (dv : Value) (dn : Nat) (dxs : List Value) (b u : Nat) (w : World) (hb : 2 ≤ b) (hb2 : b ≤ 36) (hu : u < 18446744073709551616) (hbuf : Lib.OwnBuf B 5 dv dn dxs W0 w) (hlim : dn + 65 ≤ 140737488355328) (hE : Env B' w) :
    Calls Tryd.prog 47 #[dv, .int .u64 u, .int .i64 b] w (BufPost B W0 (dxs ++ bCells (text b u))) := by
  by_cases h10 : b = 10
  · subst h10; exact iAppendUint_10 B B' W0 dv dn dxs u w hu hbuf hlim hE
  · have h10' : ((b : Int) == 10) = false := by simp; omega
    have HF := Lib.hid (formatBits_anyA B B' W0 dv dn dxs b u w hb hb2 h10 hu hbuf hlim hE)
    go_enter Tryd.func47, Tryd.ntmps47
    go_wp2_with (go_at_call 53; refine HF.out.mono ?_; rintro e w' ⟨v', rfl, hb'⟩; refine Hid.out ?_)
    refine Lib.hid ?_
    have HB := Lib.hid hb'
    clear hb'
    go_wp2
    go_ret
    exact ⟨v', rfl, HB.out⟩

theorem sAppendUint_any (B B' : Nat) (W0 : World) (dv : Value) (dn : Nat) (dxs : List Value) (b u : Nat) (w : World) (hb : 2 ≤ b) (hb2 : b ≤ 36) (hu : u < 18446744073709551616) (hbuf : Lib.OwnBuf B 5 dv dn dxs W0 w) (hlim : dn + 65 ≤ 140737488355328) (hE : Env B' w) :
    Calls Tryd.prog 34 #[dv, .int .u64 u, .int .i64 b] w (BufPost B W0 (dxs ++ bCells (text b u))) := by
  have HF := Lib.hid (iAppendUint_any B B' W0 dv dn dxs b u w hb hb2 hu hbuf hlim hE)
  go_enter Tryd.func34, Tryd.ntmps34
  go_wp2_with (go_at_call 47; refine HF.out.mono ?_; rintro e w' ⟨v', rfl, hb'⟩; refine Hid.out ?_)
  refine Lib.hid ?_
  have HB := Lib.hid hb'
  clear hb'
  go_wp2
  go_ret
  exact ⟨v', rfl, HB.out⟩

set_option maxHeartbeats 1000000 in
set_option maxRecDepth 100000 in
theorem iAppendInt_any (B : Nat) (W0 : World) (dv : Value) (dn : Nat) (dxs : List Value) (b : Nat) (x : Int) (w : World) (hb : 2 ≤ b) (hb2 : b ≤ 36) (h0 : -9223372036854775808 ≤ x) (h1 : x ≤ 9223372036854775807) (hbuf : Lib.OwnBuf B 5 dv dn dxs W0 w) (hlim : dn + 66 ≤ 140737488355328) (hE : Env B W0) :
    Calls Tryd.prog 46 #[dv, .int .i64 x, .int .i64 b] w (BufPost B W0 (dxs ++ bCells (itext b x))) := by
  obtain ⟨i0, hi, hz0, hz1, hz2⟩ := info_parts infoU8
  by_cases hn : x < 0
  · have hd : decide (x < 0) = true := by simpa using hn
    rw [itext_neg hn]
    have hw64 : IntKind.u64.wrap x = ((18446744073709551616 - x.natAbs : Nat) : Int) := by rw [IntKind.wrap_u64]; omega
    have hw2 : IntKind.u64.wrap (-((18446744073709551616 - x.natAbs : Nat) : Int)) = (x.natAbs : Int) := by rw [IntKind.wrap_u64]; omega
    have hub : x.natAbs < 18446744073709551616 := by omega
    generalize 18446744073709551616 - x.natAbs = U at *
    generalize x.natAbs = u at *
    go_enter Tryd.func46, Tryd.ntmps46
    go_wp2_with (at_builtin; refine Lib.wpList_append_byte rfl _ _ 40 rfl B 5 i0 Tryd.underlying40 hi hz0 hz1 hz2 dv dn dxs rfl W0 _ _ hbuf rfl (by omega) ?_; intro v1 w1 hb1; refine Hid.out ?_)
    refine Lib.hid ?_
    have HF := Lib.hid (iAppendUint_any B B W0 v1 (dn + 1) _ b u w1 hb hb2 hub hb1 (by omega) (hE.on hb1.2.1))
    clear hb1 hbuf
    go_wp2_with (go_at_call 47; refine HF.out.mono ?_; rintro e w2 ⟨v2, rfl, hb2'⟩; refine Hid.out ?_)
    refine Lib.hid ?_
    have HB := Lib.hid hb2'
    clear hb2'
    go_wp2
    go_ret
    refine ⟨v2, rfl, ?_⟩
    have e1 : dxs ++ bCells (45 :: text b u) = dxs ++ [.int .u8 45] ++ bCells (text b u) := by simp [bCells]
    rw [e1]
    exact HB.out
  · have hd : decide (x < 0) = false := by simpa using hn
    rw [itext_pos (by omega)]
    obtain ⟨u, rfl⟩ : ∃ u : Nat, x = (u : Int) := ⟨x.toNat, by omega⟩
    have hab : (u : Int).natAbs = u := by omega
    rw [hab]
    have HF := Lib.hid (iAppendUint_any B B W0 dv dn dxs b u w hb hb2 (by omega) hbuf (by omega) (hE.on hbuf.2.1))
    clear hbuf hab
    go_enter Tryd.func46, Tryd.ntmps46
    go_wp2_with (go_at_call 47; refine HF.out.mono ?_; rintro e w2 ⟨v2, rfl, hb2'⟩; refine Hid.out ?_)
    refine Lib.hid ?_
    have HB := Lib.hid hb2'
    clear hb2'
    go_wp2
    go_ret
    exact ⟨v2, rfl, HB.out⟩

theorem sAppendInt_any (B : Nat) (W0 : World) (dv : Value) (dn : Nat) (dxs : List Value) (b : Nat) (x : Int) (w : World) (hb : 2 ≤ b) (hb2 : b ≤ 36) (h0 : -9223372036854775808 ≤ x) (h1 : x ≤ 9223372036854775807) (hbuf : Lib.OwnBuf B 5 dv dn dxs W0 w) (hlim : dn + 66 ≤ 140737488355328) (hE : Env B W0) :
    Calls Tryd.prog 33 #[dv, .int .i64 x, .int .i64 b] w (BufPost B W0 (dxs ++ bCells (itext b x))) := by
  have HF := Lib.hid (iAppendInt_any B W0 dv dn dxs b x w hb hb2 h0 h1 hbuf hlim hE)
  go_enter Tryd.func33, Tryd.ntmps33
  go_wp2_with (go_at_call 46; refine HF.out.mono ?_; rintro e w' ⟨v', rfl, hb'⟩; refine Hid.out ?_)
  refine Lib.hid ?_
  have HB := Lib.hid hb'
  clear hb'
  go_wp2
  go_ret
  exact ⟨v', rfl, HB.out⟩

/-- "true" and "false". -/
def boolT (b : Bool) : List UInt8 := if b then [116, 114, 117, 101] else [102, 97, 108, 115, 101]

set_option maxRecDepth 100000 in
theorem iAppendBool_any (B : Nat) (W0 : World) (dv : Value) (dn : Nat) (dxs : List Value) (b : Bool) (w : World) (hbuf : Lib.OwnBuf B 5 dv dn dxs W0 w) (hlim : dn + 5 ≤ 140737488355328) :
    Calls Tryd.prog 49 #[dv, .bool b] w (BufPost B W0 (dxs ++ bCells (boolT b))) := by
  obtain ⟨i0, hi, hz0, hz1, hz2⟩ := info_parts infoU8
  have hxl : dxs.length = dn := by have := hbuf.1.1; omega
  have HXL := Lib.hid hxl
  clear hxl
  cases b
  · have hs5 : (⟨#[102, 97, 108, 115, 101]⟩ : ByteArray).size = 5 := rfl
    go_enter Tryd.func49, Tryd.ntmps49
    go_wp2_with (at_builtin; refine Lib.wpList_append_text rfl _ _ 40 9 rfl B 5 i0 Tryd.underlying40 Tryd.underlying9 hi hz0 hz1 hz2 dv dn dxs rfl W0 hbuf ⟨#[102, 97, 108, 115, 101]⟩ rfl (by omega) ?_; intro v' w2 hb'; refine Hid.out ?_)
    refine Lib.hid ?_
    have HB := Lib.hid hb'
    clear hb'
    go_wp2
    go_ret
    refine ⟨v', rfl, ?_⟩
    have e1 : (dxs ++ bCells (boolT false)).length = dn + 5 := by rw [List.length_append, HXL.out]; rfl
    rw [e1]
    exact HB.out
  · have hs5 : (⟨#[116, 114, 117, 101]⟩ : ByteArray).size = 4 := rfl
    go_enter Tryd.func49, Tryd.ntmps49
    go_wp2_with (at_builtin; refine Lib.wpList_append_text rfl _ _ 40 9 rfl B 5 i0 Tryd.underlying40 Tryd.underlying9 hi hz0 hz1 hz2 dv dn dxs rfl W0 hbuf ⟨#[116, 114, 117, 101]⟩ rfl (by omega) ?_; intro v' w2 hb'; refine Hid.out ?_)
    refine Lib.hid ?_
    have HB := Lib.hid hb'
    clear hb'
    go_wp2
    go_ret
    refine ⟨v', rfl, ?_⟩
    have e1 : (dxs ++ bCells (boolT true)).length = dn + 4 := by rw [List.length_append, HXL.out]; rfl
    rw [e1]
    exact HB.out
theorem sAppendBool_any (B : Nat) (W0 : World) (dv : Value) (dn : Nat) (dxs : List Value) (b : Bool) (w : World) (hbuf : Lib.OwnBuf B 5 dv dn dxs W0 w) (hlim : dn + 5 ≤ 140737488355328) :
    Calls Tryd.prog 37 #[dv, .bool b] w (BufPost B W0 (dxs ++ bCells (boolT b))) := by
  have HF := Lib.hid (iAppendBool_any B W0 dv dn dxs b w hbuf hlim)
  go_enter Tryd.func37, Tryd.ntmps37
  go_wp2_with (go_at_call 49; refine HF.out.mono ?_; rintro e w' ⟨v', rfl, hb'⟩; refine Hid.out ?_)
  refine Lib.hid ?_
  have HB := Lib.hid hb'
  clear hb'
  go_wp2
  go_ret
  exact ⟨v', rfl, HB.out⟩
end Go.Proofs.YthjkpkkkjndjlaaDoor
