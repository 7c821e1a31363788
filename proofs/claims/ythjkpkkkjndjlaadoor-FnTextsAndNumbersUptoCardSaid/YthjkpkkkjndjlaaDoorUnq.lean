/- strconv.unquote at a quoted text with something behind it: the way through its loop. -/
import Derived.Test.YthjkpkkkjndjlaaDoorUnqP
import Derived.Test.YthjkpkkkjndjlaaDoorScript
namespace Go.Proofs.YthjkpkkkjndjlaaDoor
open Go.RowKit

/-- A buffer of the call's own, made a string. -/
theorem buf_bytes {B : Nat} {v : Value} {l : List UInt8} {W0 w : World} (h : Lib.OwnBuf B 5 v l.length (bCells l) W0 w) :
    (convert 40 9 v).run Tryd.prog w = .ok (.string (bs l)) w := by
  by_cases hl : 0 < l.length
  · have h2 : Lib.OwnBuf B 5 v (Lib.intCells (zI l)).length (Lib.intCells (zI l)) W0 w := by rw [intCells_len, zI_len, ← bCells_zI]; exact h
    have h3 := buf_str h2 (by rw [zI_len]; exact hl)
    rwa [nb_zI] at h3
  · obtain rfl : l = [] := List.eq_nil_of_length_eq_zero (by omega)
    rcases h.1.2 with ⟨hv, _⟩ | ⟨g, cap, cur, fz, hv, _⟩
    · rw [hv]; kernel_rfl
    · rw [hv]
      exact run_convert_bytes_arg w 40 5 Tryd.underlying40 Tryd.underlying5 g 0 _ cap [] rfl (fun j hj => by simp at hj) 9 Tryd.underlying9
theorem rune_bytes (r : Int) (h0 : 0 ≤ r) (h1 : r ≤ 1114111) : ∀ x ∈ Lib.encodeRuneZ r, 0 ≤ x ∧ x < 256 := by
  intro x hx
  unfold Lib.encodeRuneZ at hx
  repeat' split at hx
  all_goals (simp at hx; omega)
theorem rune_cells (r : Int) (h0 : 0 ≤ r) (h1 : r ≤ 1114111) : bCells (nb (Lib.encodeRuneZ r)) = Lib.runeCells r := by
  simp only [bCells, nb, Lib.runeCells, List.map_map]
  apply List.map_congr_left
  intro x hx
  have := rune_bytes r h0 h1 x hx
  simp only [Function.comp]
  congr 1
  rw [UInt8.toNat_ofNat']
  omega
theorem bCells_append (l r : List UInt8) : bCells (l ++ r) = bCells l ++ bCells r := by simp [bCells]
theorem first_byte {S : ByteArray} {c : UInt8} {r : List UInt8} {m : Nat} (hS : S = bs (c :: r)) (hm : c.toNat = m) (h : 0 < S.size) : (S[0]'h).toNat = m := by
  subst hS; exact hm

set_option maxHeartbeats 600000 in
set_option maxRecDepth 1000000 in
theorem unq_slow_true (p : Int → Bool) (hlat : ∀ r : Int, 32 ≤ r → r < 127 → p r = true) (h10 : p 10 = false) (l t : List UInt8) (S P : ByteArray) (n e : Nat) (hn : S.size = n) (hp : 2 ≤ n) (h0 : ∀ h : 0 < S.size, (S[0]'h).toNat = 34)
    (hS1 : S.extract 1 n = bs (nb (qFrom p l.length l) ++ 34 :: t)) (hP : S.extract 0 (e + 2) = P) (he : e + 2 ≤ n) (hidx : Lib.indexByte (bs (nb (qFrom p l.length l) ++ 34 :: t)).data.toList (34 : Nat).toUInt8 = (e : Int)) (lim : n ≤ 1048576000)
    (hc : (Lib.indexByte P.data.toList (92 : Nat).toUInt8 != -1) = true) (w : World) (hU : Utf8Ok w) (hll : l.length ≤ 1048576000) (htl : t.length ≤ 1048576000) :
    Calls Tryd.prog 40 #[.string S, .bool true] w fun e w' => e = .returned (.tuple #[.string (bs l), .string (bs t), .nilIface]) ∧ Below w.heap.size w w' := by
  obtain ⟨i0, hi, hz0, hz1, hz2⟩ := info_parts infoU8
  have hc0 := h0 (by omega)
  obtain ⟨S1, hS1e⟩ : ∃ S1, S1 = bs (nb (qFrom p l.length l) ++ 34 :: t) := ⟨_, rfl⟩
  rw [← hS1e] at hS1 hidx
  have HI : Hid (∀ w, Calls Tryd.prog 54 #[.string S1, .int .u8 34] w fun e' w' => e' = .returned (.int .i64 e) ∧ w = w') := Lib.hid fun w => by
    have := index_any S1 34 w
    rwa [hidx] at this
  have HC : Hid (∀ w, Calls Tryd.prog 55 #[.string P, .int .u8 92] w fun e w' => e = .returned (.bool true) ∧ w = w') := Lib.hid fun w => by
    have := contains_any P 92 w
    rwa [hc] at this
  have H1 := Lib.hid hS1e
  obtain ⟨c, hcc⟩ : ∃ c, c = 3 * (e + 2) / 2 := ⟨_, rfl⟩
  have hcI : 3 * ((e : Int) + 2) / 2 = (c : Int) := by omega
  have hcb : c ≤ 140737488355328 := by omega
  have gn2 : decide ((n : Int) < 2) = false := by simp; omega
  have ge0 : decide ((e : Int) < 0) = false := by simp
  have HUU := Lib.hid hU
  clear h0 hidx hc hS1e hcc hU
  go_enter Tryd.func40, Tryd.ntmps40
  go_big_wp2_with (first
    | (go_at_call 54; refine (HI.out _).mono ?_; rintro e w' ⟨rfl, rfl⟩)
    | (go_at_call 55; refine (HC.out _).mono ?_; rintro e w' ⟨rfl, rfl⟩)
    | (at_make; refine wpList_make_own _ rfl _ _ 40 rfl w.heap.size 5 i0 (.int .u8 0) 1 Tryd.underlying40 hi hz0 hz1 _ _ _ c rfl rfl (by first | rfl | assumption) (by rw [hz2]; omega) (by unfold maxLen; omega) (Nat.le_refl _) ?_; intro w1 hown hg))
  have hbuf : Lib.OwnBuf w.heap.size 5 (.slice (some ⟨w.heap.size, 0, none⟩) 0 c) 0 [] w w1 := ⟨World.ownsRowF_of hown, (Below.refl _ _).grown hg (Nat.le_refl _) (by intro k hk; cases hk), hg.size⟩
  clear hown hg
  go_loopw [0, 14, 16, 17, 18, 19] (fun vin vbuf _ _ _ _ wr => ∃ (l' done : List UInt8) (f : Nat) (I : ByteArray), vin = .string I ∧ Hid (I = bs (nb (qFrom p f l') ++ 34 :: t) ∧ l'.length ≤ f ∧ l = done ++ l') ∧ I.size ≤ n ∧ Lib.OwnBuf w.heap.size 5 vbuf done.length (bCells done) w wr) (fun vin _ _ _ _ _ _ => (strOfV vin).size)
  case atStart => exact ⟨l, [], l.length, S1, rfl, ⟨H1.out, Nat.le_refl _, rfl⟩, by rw [← hS1, ByteArray.size_extract]; omega, hbuf⟩
  case round =>
    obtain ⟨l', done, f, I, rfl, HH, hIn, ob⟩ := hrel
    obtain ⟨hI, hf, hl⟩ := HH.out
    have hBel : Below w.heap.size w wr := ob.2.1
    by_cases hne : l' = []
    · subst hne
      rw [List.append_nil] at hl
      subst hl
      rw [qFrom_nil] at hI
      have hI2 : I = bs (34 :: t) := hI
      obtain ⟨N1, hN1⟩ : ∃ N1, N1 = 1 + t.length := ⟨_, rfl⟩
      have hIs : I.size = N1 := by rw [hI2, bs_size, hN1]; simp; omega
      have hNp : 0 < N1 := by omega
      have hNI : (0 : Int) < (N1 : Int) := by omega
      have hIpos : 0 < I.size := by omega
      have hI0 := first_byte (m := 34) hI2 rfl hIpos
      have hIe : I.extract 1 N1 = bs t := by rw [hI2, hN1]; exact bs_drop [34] t 1 _ rfl (by rw [List.length_append]; rfl)
      clear hN1
      have hbs := buf_bytes ob
      clear HH hI hI2 ob
      go_big_wp2
      go_ret3
      exact ⟨rfl, hBel⟩
    · have hKp := decodeL_pos l'
      have hKl := Lib.decodeL_le l' hne
      have hqs := qFrom_step p f l' hne hf
      have htk := uqB_take l' hne
      obtain ⟨cb, rr, hcr, h34, hn10⟩ := step_first p h10 l' hne
      obtain ⟨R0, hR0⟩ : ∃ R0, R0 = nb (qFrom p (f - 1) (l'.drop (Lib.decodeL l').2)) ++ 34 :: t := ⟨_, rfl⟩
      have hI2 : I = bs (nb (qStep p l') ++ R0) := by rw [hI, hqs, nb_append, List.append_assoc, ← hR0]
      have hI3 : I = bs (cb :: (rr ++ R0)) := by rw [hI2, hcr]; rfl
      have hsz : I.size = rr.length + 1 + R0.length := by rw [hI3, bs_size]; simp; omega
      have hIpos : 0 < I.size := by omega
      have hI0 := first_byte (m := cb.toNat) hI3 rfl hIpos
      have hRs : (bs R0).size = R0.length := bs_size R0
      have hQ := uq_step p hlat l' hne R0 (by omega) wr (HUU.out wr hBel)
      rw [← hI2] at hQ
      have hnew : Hid (bs R0 = bs (nb (qFrom p (f - 1) (l'.drop (Lib.decodeL l').2)) ++ 34 :: t) ∧ (l'.drop (Lib.decodeL l').2).length ≤ f - 1 ∧ l = (done ++ uqB l') ++ l'.drop (Lib.decodeL l').2) := Lib.hid ⟨by rw [hR0], by rw [List.length_drop]; omega, by rw [htk, List.append_assoc, List.take_append_drop]; exact hl⟩
      have hdl : done.length ≤ 1048576000 := by have := congrArg List.length hl; rw [List.length_append] at this; omega
      have hBs := ob.2.2
      generalize hTT : bs R0 = TT at *
      obtain ⟨m0, hm0⟩ : ∃ m0, cb.toNat = m0 := ⟨_, rfl⟩
      rw [hm0] at hI0 h34 hn10
      have hm0l : m0 < 256 := by rw [← hm0]; exact UInt8.toNat_lt _
      have q34 : ((m0 : Int) == 34) = false := by simp; omega
      have q34' : ((m0 : Int) != 34) = true := by simp; omega
      have q10 : ((m0 : Int) == 10) = false := by simp; omega
      have HQ := Lib.hid hQ
      obtain ⟨N1, hN1⟩ : ∃ N1, I.size = N1 := ⟨_, rfl⟩
      have hNp : 0 < N1 := by omega
      have hTs : TT.size < N1 := by omega
      have hIb : TT.size ≤ n := by omega
      clear hQ hI hI2 hI3 hqs htk hcr HH hR0 hTT hsz hRs hf hl
      by_cases hlow : bad l' ∨ (Lib.decodeL l').1 < 128
      · have eR : uqR l' = (l'.getD 0 0).toNat := by
          by_cases hb : bad l'
          · rw [uqR, if_pos hb]
          · rw [uqR, if_neg hb, (width_low hne hb (hlow.resolve_left hb)).2]
        have eB : uqB l' = [l'.getD 0 0] := by rw [uqB, if_pos hlow]
        have eM : (l'.getD 0 0).toNat < 128 ∨ uqM l' = false := by
          by_cases hb : bad l'
          · exact .inr (by rw [uqM, if_pos hb])
          · exact .inl (by rw [(width_low hne hb (hlow.resolve_left hb)).2]; exact hlow.resolve_left hb)
        rw [eR] at HQ
        rw [eB] at hnew
        generalize l'.getD 0 0 = b at *
        obtain ⟨r, hr⟩ : ∃ r, r = b.toNat := ⟨_, rfl⟩
        have hrl : r < 256 := by rw [hr]; exact UInt8.toNat_lt _
        have hbc : bCells (done ++ [b]) = bCells done ++ [.int .u8 (r : Int)] := by rw [bCells_append, hr]; rfl
        have hw8 : IntKind.u8.wrap (r : Int) = (r : Int) := by rw [IntKind.wrap_u8']; omega
        rw [← hr] at HQ eM
        have HBC := Lib.hid hbc
        have HOB := Lib.hid ob
        generalize uqM l' = mb at *
        clear eR eB hbc hr hlow hKp hKl ob hne
        rcases eM with hlt | rfl
        · have gR : decide ((r : Int) < 128) = true := by simp; omega
          go_big_wp2_with (go_at_call 58; refine HQ.out.mono ?_; rintro e w2 ⟨rfl, hw2⟩; refine Hid.out ?_)
          refine Lib.hid ?_
          have hb2 := bufOn HOB.out hw2
          go_big_wp2_with (at_builtin; refine Lib.wpList_append_byte rfl _ _ 40 rfl w.heap.size 5 i0 Tryd.underlying40 hi hz0 hz1 hz2 u14 done.length (bCells done) rfl w _ _ hb2 rfl (by omega) ?_; intro v3 w3 hb3; refine Hid.out ?_)
          refine Lib.hid ?_
          have hb4 : Lib.OwnBuf w.heap.size 5 v3 (done ++ [b]).length (bCells (done ++ [b])) w w3 := by rw [HBC.out, List.length_append]; exact hb3
          have HB4 := Lib.hid hb4
          clear hb2 hb3 hb4
          go_big_wp2
          exact ⟨⟨_, _, _, _, rfl, hnew, hIb, HB4.out⟩, by simp only [strOfV]; omega⟩
        · by_cases hlt : r < 128
          · have gR : decide ((r : Int) < 128) = true := by simp; omega
            go_big_wp2_with (go_at_call 58; refine HQ.out.mono ?_; rintro e w2 ⟨rfl, hw2⟩; refine Hid.out ?_)
            refine Lib.hid ?_
            have hb2 := bufOn HOB.out hw2
            go_big_wp2_with (at_builtin; refine Lib.wpList_append_byte rfl _ _ 40 rfl w.heap.size 5 i0 Tryd.underlying40 hi hz0 hz1 hz2 u14 done.length (bCells done) rfl w _ _ hb2 rfl (by omega) ?_; intro v3 w3 hb3; refine Hid.out ?_)
            refine Lib.hid ?_
            have hb4 : Lib.OwnBuf w.heap.size 5 v3 (done ++ [b]).length (bCells (done ++ [b])) w w3 := by rw [HBC.out, List.length_append]; exact hb3
            have HB4 := Lib.hid hb4
            clear hb2 hb3 hb4
            go_big_wp2
            exact ⟨⟨_, _, _, _, rfl, hnew, hIb, HB4.out⟩, by simp only [strOfV]; omega⟩
          · have gR : decide ((r : Int) < 128) = false := by simp; omega
            go_big_wp2_with (go_at_call 58; refine HQ.out.mono ?_; rintro e w2 ⟨rfl, hw2⟩; refine Hid.out ?_)
            refine Lib.hid ?_
            have hb2 := bufOn HOB.out hw2
            go_big_wp2_with (at_builtin; refine Lib.wpList_append_byte rfl _ _ 40 rfl w.heap.size 5 i0 Tryd.underlying40 hi hz0 hz1 hz2 u14 done.length (bCells done) rfl w _ _ hb2 rfl (by omega) ?_; intro v3 w3 hb3; refine Hid.out ?_)
            refine Lib.hid ?_
            have hb4 : Lib.OwnBuf w.heap.size 5 v3 (done ++ [b]).length (bCells (done ++ [b])) w w3 := by rw [HBC.out, List.length_append]; exact hb3
            have HB4 := Lib.hid hb4
            clear hb2 hb3 hb4
            go_big_wp2
            exact ⟨⟨_, _, _, _, rfl, hnew, hIb, HB4.out⟩, by simp only [strOfV]; omega⟩
      · have hnb : ¬ bad l' := fun h => hlow (.inl h)
        have eR : uqR l' = (Lib.decodeL l').1 := by rw [uqR, if_neg hnb]
        have eM : uqM l' = true := by rw [uqM, if_neg hnb]; simp; omega
        have eB : uqB l' = l'.take (Lib.decodeL l').2 := by rw [uqB, if_neg hlow]
        have henc : nb (Lib.encodeRuneZ ((Lib.decodeL l').1 : Int)) = l'.take (Lib.decodeL l').2 := Lib.encode_decode l' hne hnb
        have hrb := Lib.decodeL_rune l'
        rw [eR, eM] at HQ
        obtain ⟨R, hR⟩ : ∃ R, R = (Lib.decodeL l').1 := ⟨_, rfl⟩
        rw [← hR] at HQ henc hrb hlow
        have hR128 : 128 ≤ R := by omega
        have hA := fun (w1 : World) (h1 : Below wr.heap.size wr w1) => Tryd.utf8_AppendRune_row w.heap.size u14 done.length (bCells done) (R : Int) (by omega) (by omega) w1 (bufOn ob h1).1 (by omega) (bufOn ob h1).2.2
        have HA := Lib.hid hA
        clear hA
        have gR : decide ((R : Int) < 128) = false := by simp; omega
        have HEN := Lib.hid (And.intro henc (And.intro eB hR))
        have HOB := Lib.hid ob
        clear eR eM eB henc hR hlow hnb hKp hKl ob hne
        go_big_wp2_with (go_at_call 58; refine HQ.out.mono ?_; rintro e w2 ⟨rfl, hw2⟩; refine Hid.out ?_)
        refine Lib.hid ?_
        go_big_wp2_with (go_at_call 59; refine (HA.out _ hw2).mono ?_; rintro e w3 ⟨v3, rfl, ho3, o3, hg3⟩; refine Hid.out ?_)
        refine Lib.hid ?_
        have hb3 := ((bufOn HOB.out hw2).alloc o3).grown ho3 hg3
        have hb4 : Lib.OwnBuf w.heap.size 5 v3 (done ++ uqB l').length (bCells (done ++ uqB l')) w w3 := by
          have e1 : bCells (done ++ uqB l') = bCells done ++ Lib.runeCells (R : Int) := by rw [bCells_append, HEN.out.2.1, ← HEN.out.1, rune_cells _ (by omega) (by omega)]
          have e2 : (done ++ uqB l').length = done.length + (Lib.runeCells (R : Int)).length := by
            rw [← bCells_len (done ++ uqB l'), e1, List.length_append, bCells_len]
          rw [e1, e2]
          exact hb3
        have HB4 := Lib.hid hb4
        clear hb3 hb4 ho3 hg3
        go_big_wp2
        exact ⟨⟨_, _, _, _, rfl, hnew, hIb, HB4.out⟩, by simp only [strOfV]; omega⟩

set_option maxHeartbeats 600000 in
set_option maxRecDepth 1000000 in
theorem unq_slow_false (p : Int → Bool) (hlat : ∀ r : Int, 32 ≤ r → r < 127 → p r = true) (h10 : p 10 = false) (l t : List UInt8) (S P Q : ByteArray) (n e : Nat) (hn : S.size = n) (hp : 2 ≤ n) (h0 : ∀ h : 0 < S.size, (S[0]'h).toNat = 34)
    (hS1 : S.extract 1 n = bs (nb (qFrom p l.length l) ++ 34 :: t)) (hP : S.extract 0 (e + 2) = P) (he : e + 2 ≤ n) (hidx : Lib.indexByte (bs (nb (qFrom p l.length l) ++ 34 :: t)).data.toList (34 : Nat).toUInt8 = (e : Int)) (lim : n ≤ 1048576000)
    (hc : (Lib.indexByte P.data.toList (92 : Nat).toUInt8 != -1) = true) (hQ : S.extract 0 (n - t.length) = Q) (w : World) (hU : Utf8Ok w) (htl : t.length + 2 ≤ n) :
    Calls Tryd.prog 40 #[.string S, .bool false] w fun e w' => e = .returned (.tuple #[.string Q, .string (bs t), .nilIface]) ∧ Below w.heap.size w w' := by
  have hc0 := h0 (by omega)
  obtain ⟨S1, hS1e⟩ : ∃ S1, S1 = bs (nb (qFrom p l.length l) ++ 34 :: t) := ⟨_, rfl⟩
  rw [← hS1e] at hS1 hidx
  have HI : Hid (∀ w, Calls Tryd.prog 54 #[.string S1, .int .u8 34] w fun e' w' => e' = .returned (.int .i64 e) ∧ w = w') := Lib.hid fun w => by
    have := index_any S1 34 w
    rwa [hidx] at this
  have HC : Hid (∀ w, Calls Tryd.prog 55 #[.string P, .int .u8 92] w fun e w' => e = .returned (.bool true) ∧ w = w') := Lib.hid fun w => by
    have := contains_any P 92 w
    rwa [hc] at this
  have H1 := Lib.hid hS1e
  have gn2 : decide ((n : Int) < 2) = false := by simp; omega
  have ge0 : decide ((e : Int) < 0) = false := by simp
  have HUU := Lib.hid hU
  clear h0 hidx hc hS1e hU
  go_enter Tryd.func40, Tryd.ntmps40
  go_big_wp2_with (first
    | (go_at_call 54; refine (HI.out _).mono ?_; rintro e w' ⟨rfl, rfl⟩)
    | (go_at_call 55; refine (HC.out _).mono ?_; rintro e w' ⟨rfl, rfl⟩))
  go_loopw [0, 14, 16, 17, 18, 19] (fun vin _ _ _ _ _ wr => ∃ (l' : List UInt8) (f : Nat) (I : ByteArray), vin = .string I ∧ Hid (I = bs (nb (qFrom p f l') ++ 34 :: t) ∧ l'.length ≤ f) ∧ I.size ≤ n ∧ Below w.heap.size w wr) (fun vin _ _ _ _ _ _ => (strOfV vin).size)
  case atStart => exact ⟨l, l.length, S1, rfl, ⟨H1.out, Nat.le_refl _⟩, by rw [← hS1, ByteArray.size_extract]; omega, Below.refl _ _⟩
  case round =>
    obtain ⟨l', f, I, rfl, HH, hIn, hBel⟩ := hrel
    obtain ⟨hI, hf⟩ := HH.out
    by_cases hne : l' = []
    · subst hne
      rw [qFrom_nil] at hI
      have hI2 : I = bs (34 :: t) := hI
      obtain ⟨N1, hN1⟩ : ∃ N1, N1 = 1 + t.length := ⟨_, rfl⟩
      have hIs : I.size = N1 := by rw [hI2, bs_size, hN1]; simp; omega
      have hNp : 0 < N1 := by omega
      have hNI : (0 : Int) < (N1 : Int) := by omega
      have hIpos : 0 < I.size := by omega
      have hI0 := first_byte (m := 34) hI2 rfl hIpos
      have hIe : I.extract 1 N1 = bs t := by rw [hI2, hN1]; exact bs_drop [34] t 1 _ rfl (by rw [List.length_append]; rfl)
      have hts : (bs t).size = t.length := bs_size t
      have hnt : (n : Int) - (t.length : Int) = ((n - t.length : Nat) : Int) := by omega
      obtain ⟨k, hk⟩ : ∃ k, k = n - t.length := ⟨_, rfl⟩
      rw [← hk] at hnt hQ
      have hkn : k ≤ n := by omega
      clear hN1 HH hI hI2 hk
      go_big_wp2
      go_ret3
      exact ⟨rfl, hBel⟩
    · have hKp := decodeL_pos l'
      have hKl := Lib.decodeL_le l' hne
      have hqs := qFrom_step p f l' hne hf
      obtain ⟨cb, rr, hcr, h34, hn10⟩ := step_first p h10 l' hne
      obtain ⟨R0, hR0⟩ : ∃ R0, R0 = nb (qFrom p (f - 1) (l'.drop (Lib.decodeL l').2)) ++ 34 :: t := ⟨_, rfl⟩
      have hI2 : I = bs (nb (qStep p l') ++ R0) := by rw [hI, hqs, nb_append, List.append_assoc, ← hR0]
      have hI3 : I = bs (cb :: (rr ++ R0)) := by rw [hI2, hcr]; rfl
      have hsz : I.size = rr.length + 1 + R0.length := by rw [hI3, bs_size]; simp; omega
      have hIpos : 0 < I.size := by omega
      have hI0 := first_byte (m := cb.toNat) hI3 rfl hIpos
      have hRs : (bs R0).size = R0.length := bs_size R0
      have hQ2 := uq_step p hlat l' hne R0 (by omega) wr (HUU.out wr hBel)
      rw [← hI2] at hQ2
      have hnew : Hid (bs R0 = bs (nb (qFrom p (f - 1) (l'.drop (Lib.decodeL l').2)) ++ 34 :: t) ∧ (l'.drop (Lib.decodeL l').2).length ≤ f - 1) := Lib.hid ⟨by rw [hR0], by rw [List.length_drop]; omega⟩
      generalize hTT : bs R0 = TT at *
      obtain ⟨m0, hm0⟩ : ∃ m0, cb.toNat = m0 := ⟨_, rfl⟩
      rw [hm0] at hI0 h34 hn10
      have hm0l : m0 < 256 := by rw [← hm0]; exact UInt8.toNat_lt _
      have q34 : ((m0 : Int) == 34) = false := by simp; omega
      have q34' : ((m0 : Int) != 34) = true := by simp; omega
      have q10 : ((m0 : Int) == 10) = false := by simp; omega
      obtain ⟨N1, hN1⟩ : ∃ N1, I.size = N1 := ⟨_, rfl⟩
      have hNp : 0 < N1 := by omega
      have hTs : TT.size < N1 := by omega
      have hIb : TT.size ≤ n := by omega
      generalize uqR l' = r at *
      generalize uqM l' = mb at *
      have HQ := Lib.hid hQ2
      clear hQ2 hI hI2 hI3 hqs hcr HH hR0 hTT hsz hRs hf hKp hKl hne
      go_big_wp2_with (go_at_call 58; refine HQ.out.mono ?_; rintro e w2 ⟨rfl, hw2⟩; refine Hid.out ?_)
      refine Lib.hid ?_
      go_big_wp2
      exact ⟨⟨_, _, _, rfl, hnew, hIb, hBel.trans (hw2.mono hBel.size)⟩, by simp only [strOfV]; omega⟩
end Go.Proofs.YthjkpkkkjndjlaaDoor
