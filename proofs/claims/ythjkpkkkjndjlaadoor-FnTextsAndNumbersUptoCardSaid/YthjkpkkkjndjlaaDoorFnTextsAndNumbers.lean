/- FnTextsAndNumbers returns true for all lists of bounded bulk: numbers and quoted texts in turn are read back one by one. Conditions: none beyond the card's own. -/
import Derived.Test.YthjkpkkkjndjlaaDoorReadT
import Derived.Test.YthjkpkkkjndjlaaDoorPTen
import Derived.Deep.RegionHeld3
namespace Go.Proofs.YthjkpkkkjndjlaaDoor
open Go.RowKit
namespace fnTextsAndNumbers
theorem env {W : World} (h : laidMet Tryd.prog Rows.fnTextsAndNumbersUptoRow.laid W) : EnvS W :=
  ⟨env_nums h, print_of h (by simp [Rows.fnTextsAndNumbersUptoRow]) (by simp [Rows.fnTextsAndNumbersUptoRow]) (by simp [Rows.fnTextsAndNumbersUptoRow]) (by simp [Rows.fnTextsAndNumbersUptoRow]) (by simp [Rows.fnTextsAndNumbersUptoRow]), utf8_of h (by simp [Rows.fnTextsAndNumbersUptoRow]) (by simp [Rows.fnTextsAndNumbersUptoRow])⟩

/-- Numbers and quoted texts in turn, from the i-th on, n of each. -/
def catN (N : List Int) (T : List ByteArray) (i n : Nat) : List UInt8 := ((List.range' i n).map fun k => itext 10 (N.getD k 0) ++ nb (qZ pQ (T.getD k ByteArray.empty).data.toList)).flatten
theorem catN_zero (N : List Int) (T : List ByteArray) (i : Nat) : catN N T i 0 = [] := rfl
theorem catN_snoc (N : List Int) (T : List ByteArray) (j : Nat) (h1 : j < N.length) (h : j < T.length) : catN N T 0 (j + 1) = catN N T 0 j ++ (itext 10 (N[j]'h1) ++ nb (qZ pQ (T[j]'h).data.toList)) := by
  simp [catN, List.range'_concat, List.getD, h, h1]
theorem catN_cons (N : List Int) (T : List ByteArray) (j n : Nat) (h1 : j < N.length) (h : j < T.length) : catN N T j (n + 1) = itext 10 (N[j]'h1) ++ (nb (qZ pQ (T[j]'h).data.toList) ++ catN N T (j + 1) n) := by
  simp [catN, List.range'_succ, List.getD, h, h1]
theorem catN_len (N : List Int) (T : List ByteArray) (hwf : ∀ x ∈ N, (Lit.int .i64 x).wf = true) : ∀ j, j ≤ N.length → j ≤ T.length → (catN N T 0 j).length ≤ 10 * bulkT (T.take j) + 65 * j
  | 0, _, _ => by simp [catN_zero]
  | j + 1, g, h => by
    have ih := catN_len N T hwf j (by omega) (by omega)
    have h1 := qZ_len pQ (T[j]'h).data.toList
    have h3 : (T[j]'h).data.toList.length = (T[j]'h).size := Array.length_toList
    have hx := wf_i64 (hwf _ (List.getElem_mem (show j < N.length by omega)))
    have h5 := itext_bd (b := 10) (by omega) hx.1 hx.2
    rw [catN_snoc N T j g h, bulk_take T j h, List.length_append, List.length_append]
    simp only [nb, List.length_map]
    omega
theorem catN_split (N : List Int) (T : List ByteArray) (j n : Nat) (h : j ≤ n) : catN N T 0 n = catN N T 0 j ++ catN N T j (n - j) := by
  have e : List.range' 0 n = List.range' 0 j ++ List.range' j (n - j) := by
    have := List.range'_append (s := 0) (m := j) (n := n - j) (step := 1)
    rw [show 0 + 1 * j = j by omega, show j + (n - j) = n by omega] at this
    exact this.symm
  simp only [catN, e, List.map_append, List.flatten_append]
theorem catN_tail (N : List Int) (T : List ByteArray) (hwf : ∀ x ∈ N, (Lit.int .i64 x).wf = true) (n j : Nat) (h : j ≤ n) (g1 : n ≤ N.length) (g2 : n ≤ T.length) : (catN N T j (n - j)).length ≤ 10 * bulkT T + 65 * n := by
  have h1 := catN_split N T j n h
  have h2 := catN_len N T hwf n g1 g2
  have h3 := bulk_le T n
  rw [h1, List.length_append] at h2
  omega
theorem itext_quote (x : Int) : ∀ c ∈ itext 10 x, c.toNat ≠ 34 := by
  have ht : ∀ c ∈ text 10 x.natAbs, c.toNat ≠ 34 := by
    intro c hc
    obtain ⟨d, hd, rfl⟩ := List.mem_map.1 hc
    have := dch_ge d (Nat.lt_of_lt_of_le (digs_bd (by omega) _ d hd) (by omega))
    omega
  intro c hc
  unfold itext at hc
  split at hc
  · rcases List.mem_cons.1 hc with rfl | h
    · decide
    · exact ht c h
  · exact ht c hc

/-- The text ahead of a round: the number, the quoted text, and the rest. -/
theorem tail_facts (N : List Int) (T : List ByteArray) (hwf : ∀ x ∈ N, (Lit.int .i64 x).wf = true) (hb : bulkT T ≤ 1048576) (n : Nat) (g1 : n ≤ N.length) (g2 : n ≤ T.length) (hn : n ≤ 1048576) (j : Nat) (h : j < n) :
    ∃ (I Q R : List UInt8), I = itext 10 (N[j]'(by omega)) ∧ Q = nb (qZ pQ (T[j]'(by omega)).data.toList) ∧ R = catN N T (j + 1) (n - (j + 1)) ∧ catN N T j (n - j) = I ++ (Q ++ R) ∧ I.length ≤ 65 ∧ 2 ≤ Q.length ∧ (∃ Q', Q = 34 :: Q') ∧ I.length + Q.length + R.length ≤ 78643200 ∧ (T[j]'(by omega)).data.toList.length ≤ 1048576 := by
  have h1 := catN_cons N T j (n - (j + 1)) (by omega) (by omega)
  rw [show n - (j + 1) + 1 = n - j by omega] at h1
  have h2 := catN_tail N T hwf n j (by omega) g1 g2
  have h3 := bulk_mem T j (by omega)
  have h4 : (T[j]'(by omega)).data.toList.length = (T[j]'(by omega)).size := Array.length_toList
  have hx := wf_i64 (hwf _ (List.getElem_mem (show j < N.length by omega)))
  have h5 := itext_bd (b := 10) (by omega) hx.1 hx.2
  refine ⟨_, _, _, rfl, rfl, rfl, h1, h5.2, by simp [nb, qZ], ⟨_, rfl⟩, ?_, by omega⟩
  rw [h1, List.length_append, List.length_append] at h2
  omega
theorem ext_take (l : List UInt8) (m : Nat) : (bs l).extract 0 m = bs (l.take m) := by
  apply ByteArray.ext
  simp [bs, ByteArray.data_extract]

set_option maxHeartbeats 1000000 in
set_option maxRecDepth 100000 in
theorem walkOf (w : World) (a1 a2 : Option Addr) (n1 n2 c1 c2 : Nat) (N : List Int) (T : List ByteArray) (e1 : N.length = n1) (e2 : T.length = n2)
    (i1 : IntsIn w a1 N) (i2 : StrsIn w a2 T) (hwf : ∀ x ∈ N, (Lit.int .i64 x).wf = true) (hb1 : n1 ≤ 1048576) (hb2 : bulkT T ≤ 1048576) (hE : EnvS w) :
    Calls Tryd.prog 5 #[.slice a1 n1 c1, .slice a2 n2 c2] w fun e w' => e = .returned (.bool true) ∧ Below w.heap.size w w' := by
  obtain ⟨m, hm⟩ : ∃ m, m = min n1 n2 := ⟨_, rfl⟩
  have hmi : min (n1 : Int) (n2 : Int) = (m : Int) := by omega
  have g1 : m ≤ n1 := by omega
  have g2 : m ≤ n2 := by omega
  have H1 := Lib.hid i1
  have H2 := Lib.hid i2
  have HW := Lib.hid hwf
  have E1 := Lib.hid e1
  have E2 := Lib.hid e2
  have HB := Lib.hid hb2
  have HE := Lib.hid hE
  clear hm i1 i2 hwf e1 e2 hb2 hE
  go_enter Tryd.func5, Tryd.ntmps5
  go_wp2
  clear hmi
  go_loopw [6, 7, 22] (fun vt _ vj wr => ∃ (j : Nat) (W : ByteArray), j ≤ m ∧ vj = .int .i64 j ∧ vt = .string W ∧ Hid (W = bs (catN N T 0 j)) ∧ Below w.heap.size w wr) (fun _ _ vj _ => m - (intOf vj).toNat)
  case atStart => exact ⟨0, ⟨#[]⟩, by omega, rfl, rfl, rfl, Below.refl _ _⟩
  case round =>
    obtain ⟨j, W, hj, rfl, rfl, HW0, hbel⟩ := hrel
    by_cases hlt : j < m
    · have j1 : j < N.length := by rw [E1.out]; omega
      have j2 : j < T.length := by rw [E2.out]; omega
      obtain ⟨b1, o1, rfl, k1⟩ := (H1.out.on hbel) j j1
      obtain ⟨b2, o2, rfl, k2⟩ := (H2.out.on hbel) j j2
      have hx := wf_i64 (HW.out _ (List.getElem_mem j1))
      have hsn := catN_snoc N T j j1 j2
      have hln := catN_len N T HW.out (j + 1) (by omega) (by omega)
      have hbl := bulk_le T (j + 1)
      have hbm := bulk_mem T j j2
      have hb0 := HB.out
      have h4 : (T[j]'j2).data.toList.length = (T[j]'j2).size := Array.length_toList
      have hF : ∀ w1, Below w.heap.size w w1 → Calls Tryd.prog 16 #[.int .i64 (N[j]'j1), .int .i64 10] w1 fun e w' => e = .returned (.string (istr 10 (N[j]'j1))) ∧ Below w1.heap.size w1 w' := fun w1 h1 => FormatInt_any 10 w.heap.size (N[j]'j1) w1 (by omega) (by omega) hx.1 hx.2 (HE.out.nums.on h1)
      have hQ : ∀ w1, Below w.heap.size w w1 → Calls Tryd.prog 11 #[.string (T[j]'j2)] w1 fun e w' => e = .returned (.string (bs (nb (qZ pQ (T[j]'j2).data.toList)))) ∧ Below w1.heap.size w1 w' := fun w1 h1 => by
        have := Quote_any Lib.goPrintTabs grTab (T[j]'j2).data.toList w1 (by omega) (HE.out.on h1).print (HE.out.on h1).utf8
        rwa [bs_eta] at this
      have hX : bs (catN N T 0 (j + 1)) = W ++ (istr 10 (N[j]'j1) ++ bs (nb (qZ pQ (T[j]'j2).data.toList))) := by rw [hsn, ← bs_append, ← bs_append, HW0.out]; rfl
      have hsz : (bs (catN N T 0 (j + 1))).size ≤ 78643200 := by rw [bs_size]; omega
      rw [hX, ByteArray.size_append, ByteArray.size_append] at hsz
      have HX := Lib.hid hX
      have HF := Lib.hid hF
      have HQ := Lib.hid hQ
      clear hX hF hQ hsn hln hbl hbm hb0 h4
      have hK : ∀ w1, Below wr.heap.size wr w1 → w1.cell? ⟨b1, o1 + j, none⟩ = some (.int .i64 (N[j]'j1)) ∧ w1.cell? ⟨b2, o2 + j, none⟩ = some (.string (T[j]'j2)) := fun w1 h1 => ⟨(h1.cell (p := ⟨b1, o1 + j, none⟩) (Lib.lt_of_cell k1)).trans k1, (h1.cell (p := ⟨b2, o2 + j, none⟩) (Lib.lt_of_cell k2)).trans k2⟩
      have HK := Lib.hid hK
      have B0 : Below wr.heap.size wr wr.drew := (Below.refl _ _).drew
      clear hK
      generalize T[j] = S at *
      generalize bs (nb (qZ pQ S.data.toList)) = Q at *
      generalize istr 10 N[j] = D at *
      generalize N[j] = x at *
      have q1 : j < n1 := by omega
      have q2 : j < n2 := by omega
      have q3 : ¬ 9223372036854775807 < D.size + Q.size := by omega
      have q4 : ¬ 9223372036854775807 < W.size + (D.size + Q.size) := by omega
      have q5 : (0 : Int) ≤ (j : Int) := by omega
      have q6 : (j : Int) < (n1 : Int) := by omega
      have q7 : (j : Int) < (n2 : Int) := by omega
      go_wp2
      go_region_held3 (fun w' => w'.cell? ⟨b1, o1 + j, none⟩ = some (.int .i64 x) ∧ w'.cell? ⟨b2, o2 + j, none⟩ = some (.string S))
        (first | exact HK.out _ (Below.refl _ _) | exact HK.out _ B0 | exact HK.out _ (B0.trans (hw1.mono B0.size)) | exact HK.out _ ((B0.trans (hw1.mono B0.size)).trans (hw2.mono (B0.trans (hw1.mono B0.size)).size)))
        (first
          | (go_at_call 16; refine (HF.out _ (hbel.trans (B0.mono hbel.size))).mono ?_; rintro e w1 ⟨rfl, hw1⟩)
          | (go_at_call 11; refine (HQ.out _ (hbel.trans ((B0.trans (hw1.mono B0.size)).mono hbel.size))).mono ?_; rintro e w2 ⟨rfl, hw2⟩))
      go_wp2
      have B1 := B0.trans (hw1.mono B0.size)
      have B2 := hbel.trans ((B1.trans (hw2.mono B1.size)).mono hbel.size)
      exact ⟨⟨j + 1, _, by omega, by go_num, rfl, HX.out.symm, B2⟩, by simp [intOf]; omega⟩
    · obtain rfl : j = m := by omega
      have HW1 : Hid (W = bs (catN N T 0 (j - 0))) := HW0
      clear HW0 hlt hj
      go_wp2
      go_loopw [6, 8, 9, 10, 11, 12, 13, 14, 15, 40] (fun vt _ _ _ _ _ _ _ _ vi wr => ∃ (i : Nat) (V : ByteArray), i ≤ j ∧ vi = .int .i64 i ∧ vt = .string V ∧ Hid (V = bs (catN N T i (j - i))) ∧ Below w.heap.size w wr) (fun _ _ _ _ _ _ _ _ _ vi _ => j - (intOf vi).toNat)
      case atStart => exact ⟨0, W, by omega, rfl, rfl, HW1, hbel⟩
      case round =>
        clear HW1 hbel
        obtain ⟨i, V, hi, rfl, rfl, HV, hbel⟩ := hrel
        by_cases hlt : i < j
        · have j1 : i < N.length := by rw [E1.out]; omega
          have j2 : i < T.length := by rw [E2.out]; omega
          obtain ⟨b1, o1, rfl, k1⟩ := (H1.out.on hbel) i j1
          obtain ⟨b2, o2, rfl, k2⟩ := (H2.out.on hbel) i j2
          have hx := wf_i64 (HW.out _ (List.getElem_mem j1))
          obtain ⟨I, Q, R, hI, hQ, hR, hV, hl1, hl2, ⟨Q', hQ'⟩, hl3, hl4⟩ := tail_facts N T HW.out HB.out j (by rw [E1.out]; omega) (by rw [E2.out]; omega) (by omega) i hlt
          have hVe : V = bs (I ++ (Q ++ R)) := by rw [HV.out, hV]
          have hcm := itext_quote (N[i]'j1)
          rw [← hI] at hcm
          have cP : ∀ w1, Calls Tryd.prog 18 #[.string (bs I), .int .i64 10, .int .i64 64] w1 fun e w' => e = .returned (.tuple #[.int .i64 (N[i]'j1), .int .i64 0]) ∧ Below w1.heap.size w1 w' := fun w1 => by
            rw [hI]; exact ParseInt_istr10 (N[i]'j1) hx.1 hx.2 w1
          have cQ : ∀ w1, Below w.heap.size w w1 → Calls Tryd.prog 19 #[.string (bs (Q ++ R))] w1 fun e w' => e = .returned (.tuple #[.string (bs Q), .bool true]) ∧ Below w1.heap.size w1 w' := fun w1 h1 => by
            rw [hQ]; exact QuotedPrefix_any pQ okQ _ R (by omega) w1 (HE.out.on h1).utf8
          have cU : ∀ w1, Below w.heap.size w w1 → Calls Tryd.prog 17 #[.string (bs Q)] w1 fun e w' => e = .returned (.tuple #[.string (T[i]'j2), .bool true]) ∧ Below w1.heap.size w1 w' := fun w1 h1 => by
            have := Unquote_any pQ okQ (T[i]'j2).data.toList (by omega) w1 (HE.out.on h1).utf8
            rw [hQ]
            rwa [bs_eta] at this
          obtain ⟨k0, hk0⟩ : ∃ k0, I.length = k0 := ⟨_, rfl⟩
          obtain ⟨q, hq⟩ : ∃ q, Q.length = q := ⟨_, rfl⟩
          obtain ⟨n0, hn0⟩ : ∃ n0, n0 = k0 + q + R.length := ⟨_, rfl⟩
          have hVs : V.size = n0 := by rw [hVe, bs_size, List.length_append, List.length_append]; omega
          have x1 : V.extract 0 k0 = bs I := by rw [hVe, ext_take, ← hk0, List.take_left]
          have x2 : V.extract k0 n0 = bs (Q ++ R) := by rw [hVe]; exact bs_drop _ _ _ _ hk0.symm (by rw [List.length_append, List.length_append]; omega)
          have x3 : V.extract (k0 + q) n0 = bs R := by rw [hVe, ← List.append_assoc]; exact bs_drop _ _ _ _ (by rw [List.length_append]; omega) (by rw [List.length_append, List.length_append]; omega)
          have hqs : (bs Q).size = q := by rw [bs_size, hq]
          have hget : ∀ k (h : k < V.size), k < k0 → (V[k]'h).toNat ≠ 34 := fun k h hk => by
            subst hVe
            rw [bs_get, List.getElem_append_left (by omega)]
            exact hcm _ (List.getElem_mem _)
          have hqt : ∀ h : k0 < V.size, (V[k0]'h).toNat = 34 := fun h => by
            subst hVe
            rw [bs_get, List.getElem_append_right (by omega)]
            subst hQ'
            simp [hk0]
          rw [hk0] at hl1 hl3
          rw [hq] at hl2 hl3
          have hn1 : n0 ≤ 78643200 := by omega
          have hn2 : k0 + q ≤ n0 := by omega
          have HP := Lib.hid cP
          have HQ := Lib.hid cQ
          have HU := Lib.hid cU
          have HG := Lib.hid hget
          have HT := Lib.hid hqt
          have HR := Lib.hid (congrArg bs hR)
          clear cP cQ cU hget hqt hI hQ hR hV hQ' hVe hcm HV hk0 hq hn0 hl4 hl3
          generalize T[i] = S at *
          generalize N[i] = x at *
          generalize bs Q = Qs at *
          generalize bs I = Is at *
          generalize bs (Q ++ R) = QR at *
          generalize bs R = Rs at *
          go_wp2
          go_loop [9] (fun vn => ∃ k : Nat, k ≤ k0 ∧ vn = .int .i64 k) (fun vn => k0 - (intOf vn).toNat)
          case atStart => exact ⟨0, by omega, rfl⟩
          case round =>
            obtain ⟨k, hk, rfl⟩ := hrel
            by_cases hkm : k < k0
            · have hks : k < V.size := by omega
              have hne := HG.out k hks hkm
              obtain ⟨c, hc⟩ : ∃ c : Nat, (V[k]'hks).toNat = c := ⟨_, rfl⟩
              rw [hc] at hne
              have g3 : ((c : Int) == 34) = false := by simp; omega
              have g4 : ((c : Int) != 34) = true := by simp; omega
              go_wp2
              go_round
              case rel => exact ⟨k + 1, by omega, by go_num⟩
              case measure => simp [intOf]; omega
            · obtain rfl : k = k0 := by omega
              have hks : k < V.size := by omega
              have hc := HT.out hks
              have hkn : k < n0 := by omega
              have g5 : decide ((q : Int) < 2) = false := by simp; omega
              have g6 : decide ((n0 : Int) - (k : Int) < (q : Int)) = false := by simp; omega
              go_wp2_with (first
                | (go_at_call 18; refine (HP.out _).mono ?_; rintro e w1 ⟨rfl, hw1⟩)
                | (go_at_call 19; refine (HQ.out _ (hbel.trans (hw1.mono hbel.size))).mono ?_; rintro e w2 ⟨rfl, hw2⟩)
                | (go_at_call 17; refine (HU.out _ ((hbel.trans (hw1.mono hbel.size)).trans (hw2.mono (hbel.trans (hw1.mono hbel.size)).size))).mono ?_; rintro e w3 ⟨rfl, hw3⟩; refine Hid.out ?_))
              refine Lib.hid ?_
              have C2 := hw1.trans (hw2.mono hw1.size)
              have C3 := C2.trans (hw3.mono C2.size)
              have k3 : w3.cell? ⟨b1, o1 + i, none⟩ = some (.int .i64 x) := (C3.cell (p := ⟨b1, o1 + i, none⟩) (Lib.lt_of_cell k1)).trans k1
              have k4 : w3.cell? ⟨b2, o2 + i, none⟩ = some (.string S) := (C3.cell (p := ⟨b2, o2 + i, none⟩) (Lib.lt_of_cell k2)).trans k2
              clear k1 k2
              go_wp2
              have B2 := (hbel.trans (hw1.mono hbel.size)).trans (hw2.mono (hbel.trans (hw1.mono hbel.size)).size)
              exact ⟨⟨i + 1, Rs, by omega, by go_num, by first | rfl | rw [x3], HR, B2.trans (hw3.mono B2.size)⟩, by simp [intOf]; omega⟩
        · obtain rfl : i = j := by omega
          have hV0 : V = ⟨#[]⟩ := by rw [HV.out, Nat.sub_self, catN_zero]; rfl
          subst hV0
          go_wp2
          go_ret
          exact ⟨rfl, hbel⟩

theorem walk (a1 : Option Addr) (n1 c1 : Nat) (N : List Int) (e1 : N.length = n1) (_l1 : n1 ≤ c1) (_m1 : c1 ≤ maxLen) (w : World) (i1 : IntsIn w a1 N) (wf1 : ∀ x ∈ N, (Lit.int .i64 x).wf = true) (b1 : N.length ≤ 1048576)
    (a2 : Option Addr) (n2 c2 : Nat) (T : List ByteArray) (e2 : T.length = n2) (_l2 : n2 ≤ c2) (_m2 : c2 ≤ maxLen) (w' : World) (hw : w' = w) (i2 : StrsIn w' a2 T) (_wf2 : ∀ x ∈ T, x.size ≤ maxLen) (b2 : (T.map (fun s => s.size + 1)).sum ≤ 1048576) (hE : EnvS w) :
    Calls Tryd.prog 5 #[.slice a1 n1 c1, .slice a2 n2 c2] w fun e w' => e = .returned (.bool true) ∧ Below w.heap.size w w' := by
  subst hw
  exact walkOf _ a1 a2 n1 n2 c1 c2 N T e1 e2 i1 i2 wf1 (by omega) b2 hE
end fnTextsAndNumbers
namespace fnTextsAndNumbers
open Go.ChangeShapes Go.WideShapes Go.ChangeAt Go.RowKit
set_option maxRecDepth 100000 in
theorem contract (H : Type) (enc : TypeId × Value → H) (W : World) (base : Nat) (args : Array Value) (ds gs : List (DataW H)) (before : List MemPlace)
    (hval : ∀ (j : Nat) t v, Tryd.f5.params[j]? = some t → args[j]? = some v → Value.okWide Tryd.prog W .any base t v)
    (hW : DataW.Whole enc Tryd.prog Tryd.f5.params.toList Rows.fnTextsAndNumbersSpec.vars false W args.toList ds gs before) (hL : laidMet Tryd.prog Rows.fnTextsAndNumbersUptoRow.laid W) (hk : Rows.uptoSmall H (ds ++ gs) = true) :
    Calls Tryd.prog 5 args W fun e W' => ∃ v, e = .returned v ∧ Rows.fnTextsAndNumbersSpec.post enc Tryd.prog Tryd.f5 false true false false W args v W' := by
  have hW' := hW
  obtain ⟨p, q, hA0, hV, rfl, hfz, hnd⟩ := hW
  have hA : DataW.TrodAll enc Tryd.prog W 0 (fun _ => true) true Tryd.f5.params.toList args.toList ds p := hA0
  rw [Tryd.params5] at hA hval
  obtain ⟨v0, vs0, d0, ds0, p0, q0, hargs, rfl, rfl, h0, r0⟩ := trodAll_cons hA
  obtain ⟨v1, vs1, d1, ds1, p1, q1, rfl, rfl, rfl, h1, r1⟩ := trodAll_cons r0
  obtain ⟨rfl, rfl, rfl⟩ := trodAll_nil r1
  obtain rfl : args = #[v0, v1] := by cases args; simp_all
  obtain ⟨rfl, rfl⟩ := trodVars_none hV
  obtain ⟨a0, len0, cap0, rfl⟩ := okWide_slice Tryd.underlying27 (hval 0 27 v0 rfl rfl)
  obtain ⟨xs0, ex0, lc0, cm0, in0, wf0, bk0⟩ := opened_ints Tryd.underlying27 Tryd.underlying2 (by kernel_rfl) h0
  have bd0 : xs0.length ≤ 1048576 := by have hs := small hk; simp only [Rows.uptoBulkAll, List.append_nil] at hs; omega
  obtain ⟨a1, len1, cap1, rfl⟩ := okWide_slice Tryd.underlying22 (hval 1 22 v1 rfl rfl)
  obtain ⟨xs1, ex1, lc1, cm1, in1, wf1, bk1⟩ := opened_strs Tryd.underlying22 Tryd.underlying9 (by kernel_rfl) h1
  have bd1 : (xs1.map (fun s => s.size + 1)).sum ≤ 1048576 := by have hs := small hk; simp only [Rows.uptoBulkAll, List.append_nil] at hs; omega
  clear hA0
  simp only [List.append_nil] at hW'
  have hlt := fun x hx => hW'.lt x hx
  refine (walk a0 len0 cap0 xs0 ex0 lc0 cm0 W in0 wf0 bd0 a1 len1 cap1 xs1 ex1 lc1 cm1 W rfl in1 wf1 bd1 (env hL)).mono fun e W' ⟨he, hg⟩ => ?_
  subst he
  have hback := trodAll_cons_mk (Below.trod laidOut (by kernel_rfl) (of_decide_eq_true (by kernel_rfl)) h0 hg (fun x hx => hlt x (by simp [hx]))) (trodAll_cons_mk (Below.trod laidOut (by kernel_rfl) (of_decide_eq_true (by kernel_rfl)) h1 hg (fun x hx => hlt x (by simp [hx]))) (trodAll_mk0))
  exact ⟨_, rfl, _, _, _, [], _, [], hW', trodAll_cons_mk (shut_bool Tryd.underlying4 _) trodAll_mk0, hback, rfl, hg.frame _, fun h => by cases h⟩

theorem plainList : laidMetH Tryd.prog Rows.fnTextsAndNumbersUptoRow.laid = laidMet Tryd.prog Rows.fnTextsAndNumbersUptoRow.laid := funext fun _ => MakeChecks.laidMetH_plain _ _ _ (by kernel_rfl)
theorem laid_met (os : Os) : laidMetH Tryd.prog Rows.fnTextsAndNumbersUptoRow.laid ((World.laidAll Tryd.prog os Rows.fnTextsAndNumbersUptoRow.laid).forCall (fun _ _ => 0) ⟨#[], #[.slice none 0 0, .slice none 0 0], []⟩).memory := by
  rw [plainList]; exact laidMet_laidAll _ (by kernel_rfl) (by kernel_rfl)
theorem reads (os : Os) {H : Type} (enc : TypeId × Value → H) : ∃ places, DataW.whole enc Tryd.prog ((World.laidAll Tryd.prog os Rows.fnTextsAndNumbersUptoRow.laid).forCall (fun _ _ => 0) ⟨#[], #[.slice none 0 0, .slice none 0 0], []⟩).memory Tryd.f5.params.toList Rows.fnTextsAndNumbersSpec.vars false #[(.slice none 0 0 : Value), (.slice none 0 0 : Value)].toList 8 = some ([.nil, .nil], [], places) :=
  ⟨[], by kernel_rfl⟩

set_option maxRecDepth 100000 in
theorem lifted (os : Os) (started : os.Started) (H : Type) (enc : TypeId × Value → H) (F : Stop.Interp) :
    ReturnsInHanded {} Tryd.checked os 5 .any ((Rows.OpenSpec.upto Rows.fnTextsAndNumbersSpec).preRow enc Tryd.prog Tryd.f5 Rows.fnTextsAndNumbersUptoRow.domain false Rows.fnTextsAndNumbersUptoRow.laid) (((Rows.OpenSpec.upto Rows.fnTextsAndNumbersSpec).at F).post enc Tryd.prog Tryd.f5 false true false false) := by
  obtain ⟨places, hx⟩ := reads os enc
  refine returnsInHanded_of_row (C := Tryd.checked) (s := Rows.OpenSpec.upto Rows.fnTextsAndNumbersSpec) ownKnobs started (by kernel_rfl) Tryd.func5
    (witness_laid #[.slice none 0 0, .slice none 0 0] (World.shaped_of_ZipB (by kernel_rfl) (by kernel_rfl)) (by kernel_rfl)
      (OpenSpec.preRow_of_cond 8 hx (by kernel_rfl) (fun k hk => by cases hk; kernel_rfl) (by kernel_rfl) (laid_met os))) ?_
  intro W base args ds gs before hval hW _ hcond _ hL _ _
  have hL2 : laidMetH Tryd.prog Rows.fnTextsAndNumbersUptoRow.laid W := hL
  rw [plainList] at hL2
  exact contract H enc W base args ds gs before hval hW hL2 (hcond _ rfl)

theorem said : Rows.FnTextsAndNumbersUptoSaid :=
  OpenClaim.holds_of_cond 5 Tryd.f5 rfl rfl rfl rfl rfl rfl rfl ⟨rfl, rfl, rfl, rfl, rfl⟩ rfl rfl rfl rfl rfl (by kernel_rfl) Tryd.func5 (by kernel_rfl)
    (of_decide_eq_true (by kernel_rfl)) (by unfold Func.isWrapper; first | (rw [if_pos (by decide +kernel)]; kernel_rfl) | (rw [if_neg (by decide +kernel)]; exact ⟨rfl, rfl⟩))
    (fun os started H enc _ F => by rw [OpenClaim.pre_eq_preRow]; exact lifted os started H enc F)

theorem plain (f : FuncId) (fn : Func) (hf : Tryd.pinned.checked.prog.funcNamed "loop.example/lib-g01429/laws.FnTextsAndNumbers" = some f) (hfn : Tryd.pinned.checked.prog.funcs[f]? = some fn) :
    true = Tryd.pinned.checked.prog.looks [] ∧ ∀ (j : Nat) t, fn.params[j]? = some t → Tryd.pinned.checked.prog.wantsStandIn t = false := by
  obtain rfl : f = 5 := Option.some.inj ((show Tryd.prog.funcNamed "loop.example/lib-g01429/laws.FnTextsAndNumbers" = some 5 by kernel_rfl).symm.trans hf) |>.symm
  obtain rfl : fn = Tryd.f5 := (Option.some.inj (Tryd.func5.symm.trans hfn)).symm
  refine ⟨by kernel_rfl, fun j t ht => ?_⟩
  rw [Tryd.params5] at ht
  have hm := Array.mem_of_getElem? ht
  simp only [List.mem_toArray, List.mem_cons, List.not_mem_nil, or_false] at hm
  rcases hm with rfl | rfl
  · exact (show Tryd.prog.wantsStandIn 27 = false by kernel_rfl)
  · exact (show Tryd.prog.wantsStandIn 22 = false by kernel_rfl)

/-- THE CARD. -/
theorem card : Rows.FnTextsAndNumbersUptoCardSaid :=
  Claim7.holds_tied_plain_at .later [] _ _ _ _ said (fun _ h => by cases h) (by kernel_rfl) (fun _ h => by cases h) fnTextsAndNumbersUpto_row_tie rfl ⟨rfl, rfl⟩ (by kernel_rfl) rfl plain (by kernel_rfl)
end fnTextsAndNumbers
end Go.Proofs.YthjkpkkkjndjlaaDoor
