/- strconv.unquote, QuotedPrefix at a quoted text of ASCII that is cut short: an error, and nothing else. -/
import Derived.Test.YthjkpkkkjndjlaaDoorUqE
import Derived.Test.YthjkpkkkjndjlaaDoorPre
namespace Go.Proofs.YthjkpkkkjndjlaaDoor
open Go.RowKit

theorem pA_low (r : Int) (h : pA r = true) : r < 128 := by
  simp [pr] at h
  exact h.1

set_option maxHeartbeats 1000000 in
set_option maxRecDepth 100000 in
theorem unq_short (S : ByteArray) (n : Nat) (hn : S.size = n) (hp : n < 2) (ay : Addr) (w : World) (hv : w.cell? ⟨0, 0, none⟩ = some (errV ay)) :
    Calls Tryd.prog 40 #[.string S, .bool false] w fun e w' => e = .returned (.tuple #[.string ⟨#[]⟩, .string S, errV ay]) ∧ Below w.heap.size w w' := by
  have gn2 : decide ((n : Int) < 2) = true := by simp; omega
  go_enter Tryd.func40, Tryd.ntmps40
  go_big_wp2
  go_quiet (fail)
  go_big_wp2
  go_ret3
  exact ⟨rfl, below_drewN (Below.refl _ _) _⟩

set_option maxHeartbeats 1000000 in
set_option maxRecDepth 100000 in
theorem unq_none (S S1 : ByteArray) (n : Nat) (hn : S.size = n) (hp : 2 ≤ n) (h0 : ∀ h : 0 < S.size, (S[0]'h).toNat = 34) (hS1 : S.extract 1 n = S1) (hidx : Lib.indexByte S1.data.toList (34 : Nat).toUInt8 = -1) (lim : n ≤ 1048576000) (ay : Addr) (w : World) (hv : w.cell? ⟨0, 0, none⟩ = some (errV ay)) :
    Calls Tryd.prog 40 #[.string S, .bool false] w fun e w' => e = .returned (.tuple #[.string ⟨#[]⟩, .string S, errV ay]) ∧ Below w.heap.size w w' := by
  have hc0 := h0 (by omega)
  have HI : Hid (∀ w, Calls Tryd.prog 54 #[.string S1, .int .u8 34] w fun e' w' => e' = .returned (.int .i64 (-1)) ∧ w = w') := Lib.hid fun w => by
    have := index_any S1 34 w
    rwa [hidx] at this
  have gn2 : decide ((n : Int) < 2) = false := by simp; omega
  clear h0 hidx
  go_enter Tryd.func40, Tryd.ntmps40
  go_big_wp2_with (go_at_call 54; refine (HI.out _).mono ?_; rintro e w' ⟨rfl, rfl⟩)
  go_quiet (fail)
  go_big_wp2
  go_ret3
  exact ⟨rfl, below_drewN (Below.refl _ _) _⟩

/-- A round of the loop at a text that is cut short. -/
theorem cut_round (p : Int → Bool) (f k : Nat) (l : List UInt8) (hf : l.length ≤ f) (I : ByteArray) (hI : I = bs ((nb (qFrom p f l)).take k)) (hpos : 0 < I.size) :
    l ≠ [] ∧ (k < (nb (qStep p l)).length ∧ 0 < k ∧ I = bs ((nb (qStep p l)).take k) ∨ ∃ k', I = bs (nb (qStep p l) ++ (nb (qFrom p (f - 1) (l.drop (Lib.decodeL l).2))).take k')) := by
  have hne : l ≠ [] := fun h => by
    subst h
    rw [hI, qFrom_nil, bs_size] at hpos
    simp [nb] at hpos
  refine ⟨hne, ?_⟩
  have hk : 0 < k := by
    rcases Nat.eq_zero_or_pos k with h | h
    · subst h; rw [hI, bs_size] at hpos; simp at hpos
    · exact h
  have hqs := qFrom_step p f l hne hf
  rw [hqs, nb_append] at hI
  by_cases h : k < (nb (qStep p l)).length
  · refine .inl ⟨h, hk, ?_⟩
    rw [hI, List.take_append_of_le_length (by omega)]
  · refine .inr ⟨k - (nb (qStep p l)).length, ?_⟩
    rw [hI, List.take_append, List.take_of_length_le (by omega)]

set_option maxHeartbeats 1000000 in
set_option maxRecDepth 1000000 in
theorem unq_cut (p : Int → Bool) (hlat : ∀ r : Int, 32 ≤ r → r < 127 → p r = true) (h10 : p 10 = false) (hlow : ∀ r : Int, p r = true → r < 128) (l : List UInt8) (k : Nat) (S P : ByteArray) (n e : Nat) (hn : S.size = n) (hp : 2 ≤ n) (h0 : ∀ h : 0 < S.size, (S[0]'h).toNat = 34)
    (hS1 : S.extract 1 n = bs ((nb (qFrom p l.length l)).take k)) (hP : S.extract 0 (e + 2) = P) (he : e + 2 ≤ n) (hidx : Lib.indexByte (bs ((nb (qFrom p l.length l)).take k)).data.toList (34 : Nat).toUInt8 = (e : Int)) (lim : n ≤ 1048576000)
    (hc : (Lib.indexByte P.data.toList (92 : Nat).toUInt8 != -1) = true) (ay : Addr) (w : World) (hU : Utf8Ok w) (hv : ∀ w1, Below w.heap.size w w1 → w1.cell? ⟨0, 0, none⟩ = some (errV ay)) :
    Calls Tryd.prog 40 #[.string S, .bool false] w fun e w' => e = .returned (.tuple #[.string ⟨#[]⟩, .string S, errV ay]) ∧ Below w.heap.size w w' := by
  have hc0 := h0 (by omega)
  obtain ⟨S1, hS1e⟩ : ∃ S1, S1 = bs ((nb (qFrom p l.length l)).take k) := ⟨_, rfl⟩
  rw [← hS1e] at hS1 hidx
  have HI : Hid (∀ w, Calls Tryd.prog 54 #[.string S1, .int .u8 34] w fun e' w' => e' = .returned (.int .i64 e) ∧ w = w') := Lib.hid fun w => by
    have := index_any S1 34 w
    rwa [hidx] at this
  have HC : Hid (∀ w, Calls Tryd.prog 55 #[.string P, .int .u8 92] w fun e w' => e = .returned (.bool true) ∧ w = w') := Lib.hid fun w => by
    have := contains_any P 92 w
    rwa [hc] at this
  have H1 := Lib.hid hS1e
  have gn2 : decide ((n : Int) < 2) = false := by simp; omega
  have ge0 : decide ((e : Int) < 0) = false := by simp
  have HUU := Lib.hid hU
  have HV := Lib.hid hv
  clear h0 hidx hc hS1e hU hv
  go_enter Tryd.func40, Tryd.ntmps40
  go_big_wp2_with (first
    | (go_at_call 54; refine (HI.out _).mono ?_; rintro e w' ⟨rfl, rfl⟩)
    | (go_at_call 55; refine (HC.out _).mono ?_; rintro e w' ⟨rfl, rfl⟩))
  go_loopw [0, 14, 16, 17, 18, 19] (fun vin _ _ _ _ _ wr => ∃ (l' : List UInt8) (f k' : Nat) (I : ByteArray), vin = .string I ∧ Hid (I = bs ((nb (qFrom p f l')).take k') ∧ l'.length ≤ f) ∧ I.size ≤ n ∧ Below w.heap.size w wr) (fun vin _ _ _ _ _ _ => (strOfV vin).size)
  case atStart => exact ⟨l, l.length, k, S1, rfl, ⟨H1.out, Nat.le_refl _⟩, by rw [← hS1, ByteArray.size_extract]; omega, Below.refl _ _⟩
  case round =>
    obtain ⟨l', f, k', I, rfl, HH, hIn, hBel⟩ := hrel
    obtain ⟨hI, hf⟩ := HH.out
    have hvr := HV.out wr hBel
    by_cases hz : I.size = 0
    · clear HH hI
      go_big_wp2
      go_quiet (fail)
      go_big_wp2
      go_ret3
      exact ⟨rfl, below_drewN hBel _⟩
    · obtain ⟨hne, hcs⟩ := cut_round p f k' l' hf I hI (by omega)
      obtain ⟨cb, rr, hcr, h34, hn10⟩ := step_first p h10 l' hne
      rcases hcs with ⟨hk1, hk2, hI2⟩ | ⟨k2, hI2⟩
      · have hI3 : ∃ rr', I = bs (cb :: rr') := by
          rw [hI2, hcr]
          obtain ⟨q, rfl⟩ : ∃ q, k' = q + 1 := ⟨k' - 1, by omega⟩
          exact ⟨rr.take q, by rw [List.take_succ_cons]⟩
        obtain ⟨rr', hI3⟩ := hI3
        have hIpos : 0 < I.size := by omega
        have hI0 := first_byte (m := cb.toNat) hI3 rfl hIpos
        have hQ := uq_cut _ (step_cut p hlow l' k' hk2 hk1) ay wr hvr
        rw [← hI2] at hQ
        obtain ⟨m0, hm0⟩ : ∃ m0, cb.toNat = m0 := ⟨_, rfl⟩
        rw [hm0] at hI0 h34 hn10
        have hm0l : m0 < 256 := by rw [← hm0]; exact UInt8.toNat_lt _
        have q34 : ((m0 : Int) == 34) = false := by simp; omega
        have q34' : ((m0 : Int) != 34) = true := by simp; omega
        have q10 : ((m0 : Int) == 10) = false := by simp; omega
        obtain ⟨N1, hN1⟩ : ∃ N1, I.size = N1 := ⟨_, rfl⟩
        have hNp : 0 < N1 := by omega
        have HQ := Lib.hid hQ
        clear hQ hI hI2 hI3 hcr HH hf hne hz hk1 hk2
        go_big_wp2_with (go_at_call 58; refine HQ.out.mono ?_; rintro e w2 ⟨rfl, hw2⟩; refine Hid.out ?_)
        refine Lib.hid ?_
        have hv2 := HV.out _ (hBel.trans (hw2.mono hBel.size))
        go_big_wp2
        go_quiet (fail)
        go_big_wp2
        go_ret3
        exact ⟨rfl, below_drewN (hBel.trans (hw2.mono hBel.size)) _⟩
      · have hKl := Lib.decodeL_le l' hne
        have hKp := decodeL_pos l'
        obtain ⟨R0, hR0⟩ : ∃ R0, R0 = (nb (qFrom p (f - 1) (l'.drop (Lib.decodeL l').2))).take k2 := ⟨_, rfl⟩
        rw [← hR0] at hI2
        have hI3 : I = bs (cb :: (rr ++ R0)) := by rw [hI2, hcr]; rfl
        have hsz : I.size = rr.length + 1 + R0.length := by rw [hI3, bs_size]; simp; omega
        have hIpos : 0 < I.size := by omega
        have hI0 := first_byte (m := cb.toNat) hI3 rfl hIpos
        have hRs : (bs R0).size = R0.length := bs_size R0
        have hQ2 := uq_step p hlat l' hne R0 (by omega) wr (HUU.out wr hBel)
        rw [← hI2] at hQ2
        have hnew : Hid (bs R0 = bs ((nb (qFrom p (f - 1) (l'.drop (Lib.decodeL l').2))).take k2) ∧ (l'.drop (Lib.decodeL l').2).length ≤ f - 1) := Lib.hid ⟨by rw [hR0], by rw [List.length_drop]; omega⟩
        generalize hTT : bs R0 = TT at *
        obtain ⟨m0, hm0⟩ : ∃ m0, cb.toNat = m0 := ⟨_, rfl⟩
        rw [hm0] at hI0 h34 hn10
        have hm0l : m0 < 256 := by rw [← hm0]; exact UInt8.toNat_lt _
        have q34 : ((m0 : Int) == 34) = false := by simp; omega
        have q34' : ((m0 : Int) != 34) = true := by simp; omega
        have q10 : ((m0 : Int) == 10) = false := by simp; omega
        obtain ⟨N1, hN1⟩ : ∃ N1, I.size = N1 := ⟨_, rfl⟩
        have hNp : 0 < N1 := by omega
        have hTs : TT.size < N1 := by omega
        have hIb : TT.size ≤ n := by omega
        generalize uqR l' = r at *
        generalize uqM l' = mb at *
        have HQ := Lib.hid hQ2
        clear hQ2 hI hI2 hI3 hcr HH hR0 hTT hsz hRs hf hKp hKl hne hz hvr
        go_big_wp2_with (go_at_call 58; refine HQ.out.mono ?_; rintro e w2 ⟨rfl, hw2⟩; refine Hid.out ?_)
        refine Lib.hid ?_
        go_big_wp2
        exact ⟨⟨_, _, _, _, rfl, hnew, hIb, hBel.trans (hw2.mono hBel.size)⟩, by simp only [strOfV]; omega⟩

theorem unquote_cut (l : List UInt8) (k : Nat) (hk : k < (nb (qZ pA l)).length) (lim : 10 * l.length + 2 ≤ 1048576000) (ay : Addr) (w : World) (hU : Utf8Ok w) (hE : ErrOk ay w) :
    Calls Tryd.prog 40 #[.string (bs ((nb (qZ pA l)).take k)), .bool false] w fun e w' => e = .returned (.tuple #[.string ⟨#[]⟩, .string (bs ((nb (qZ pA l)).take k)), errV ay]) ∧ Below w.heap.size w w' := by
  have hql := qFrom_len pA l.length l
  have hBl : (nb (qFrom pA l.length l)).length ≤ 10 * l.length := by rw [nb, List.length_map]; exact hql
  have hqz : nb (qZ pA l) = 34 :: (nb (qFrom pA l.length l) ++ [34]) := by have := qZ_cut pA l []; simpa using this
  have hv : w.cell? ⟨0, 0, none⟩ = some (errV ay) := hE
  have hv' : ∀ w1, Below w.heap.size w w1 → w1.cell? ⟨0, 0, none⟩ = some (errV ay) := fun w1 h1 => hE.on h1
  rw [hqz] at hk ⊢
  have hre := raw_or_esc pA okA.nl l.length l (Nat.le_refl _)
  by_cases h2 : k < 2
  · exact unq_short _ k (by rw [bs_size, List.length_take]; omega) h2 ay w hv
  · obtain ⟨k1, rfl⟩ : ∃ k1, k = k1 + 1 := ⟨k - 1, by omega⟩
    have hk1 : k1 ≤ (nb (qFrom pA l.length l)).length := by simp at hk; omega
    rw [List.take_succ_cons, List.take_append_of_le_length hk1]
    have hS1 : (bs (34 :: (nb (qFrom pA l.length l)).take k1)).extract 1 (k1 + 1) = bs ((nb (qFrom pA l.length l)).take k1) := bs_drop [34] _ 1 _ rfl (by rw [List.length_append, List.length_take]; show _ = 1 + _; omega)
    have hsz : (bs (34 :: (nb (qFrom pA l.length l)).take k1)).size = k1 + 1 := by rw [bs_size, List.length_cons, List.length_take]; omega
    obtain ⟨B, hB⟩ : ∃ B, B = nb (qFrom pA l.length l) := ⟨_, rfl⟩
    have hge := Lib.indexByte_ge (B.take k1) 34
    by_cases hno : Lib.indexByte (B.take k1) 34 = -1
    · exact unq_none _ _ (k1 + 1) hsz (by omega) (first_is _ _ _ rfl) hS1 (by rw [bs_data, ← hB]; exact hno) (by omega) ay w hv
    · obtain ⟨e, he⟩ : ∃ e : Nat, Lib.indexByte (B.take k1) 34 = (e : Int) := ⟨(Lib.indexByte (B.take k1) 34).toNat, by omega⟩
      obtain ⟨he1, he2⟩ := Lib.indexByte_some he
      have hek : e < k1 := by
        rcases Nat.lt_or_ge e k1 with h | h
        · exact h
        · rw [List.getElem?_eq_none (by rw [List.length_take]; omega)] at he1
          exact absurd he1 (by simp)
      rw [List.getElem?_take, if_pos hek] at he1
      rw [← hB] at hre
      have hcon : (Lib.indexByte (bs ((34 :: B.take k1).take (e + 2))).data.toList (92 : Nat).toUInt8 != -1) = true := by
        rcases hre with ⟨h1, h3, _⟩ | ⟨a, b, h1, h3⟩
        · exfalso
          rw [h1] at he1
          exact (h3 34 (List.mem_of_getElem? he1)).1 rfl
        · have hea : a.length < e := by
            by_cases h4 : a.length < e
            · exact h4
            · exfalso
              rw [h1] at he1
              by_cases h5 : e < a.length
              · rw [List.getElem?_append_left h5, List.getElem?_eq_getElem h5] at he1
                have := h3 _ (List.getElem_mem h5)
                rw [Option.some.inj he1] at this
                exact this rfl
              · obtain rfl : e = a.length := by omega
                rw [List.getElem?_append_right (Nat.le_refl _)] at he1
                simp at he1
          rw [bs_data, bne_iff_ne]
          intro h6
          have h7 := Lib.indexByte_none h6 (a.length + 1)
          apply h7
          rw [List.getElem?_take, if_pos (by omega), List.getElem?_cons_succ, List.getElem?_take, if_pos (by omega), h1, List.getElem?_append_right (Nat.le_refl _)]
          simp
      rw [hB] at hcon he
      exact unq_cut pA okA.lat okA.nl pA_low l k1 _ _ (k1 + 1) e hsz (by omega) (first_is _ _ _ rfl) hS1 (bs_take _ _) (by omega) (by rw [bs_data]; exact he) (by omega) hcon ay w hU hv'

/-- QuotedPrefix at a quoted text that is cut short. -/
theorem QuotedPrefix_cut (l : List UInt8) (k : Nat) (hk : k < (nb (qZ pA l)).length) (lim : 10 * l.length + 2 ≤ 1048576000) (ay : Addr) (w : World) (hU : Utf8Ok w) (hE : ErrOk ay w) :
    Calls Tryd.prog 19 #[.string (bs ((nb (qZ pA l)).take k))] w fun e w' => e = .returned (.tuple #[.string ⟨#[]⟩, .bool false]) ∧ Below w.heap.size w w' := by
  have c := unquote_cut l k hk lim ay w hU hE
  have C := Lib.hid c
  generalize bs ((nb (qZ pA l)).take k) = S at *
  clear c hU hE hk
  have c2 : Calls Tryd.prog 30 #[.string S] w fun e w' => e = .returned (.tuple #[.string ⟨#[]⟩, errV ay]) ∧ Below w.heap.size w w' := by
    go_enter Tryd.func30, Tryd.ntmps30
    go_wp2_with (go_at_call 40; refine C.out.mono ?_; rintro e w1 ⟨rfl, hb⟩)
    go_ret2
    exact ⟨rfl, hb⟩
  have C2 := Lib.hid c2
  clear c2 C
  go_enter Tryd.func19, Tryd.ntmps19
  go_wp2_with (go_at_call 30; refine C2.out.mono ?_; rintro e w1 ⟨rfl, hb⟩)
  go_quiet (fail)
  go_wp2
  go_ret2
  exact ⟨rfl, below_drewN hb _⟩
end Go.Proofs.YthjkpkkkjndjlaaDoor
