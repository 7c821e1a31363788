/- FnTextsCut returns true for all texts of bounded bulk and every place of the cut: those ahead of the cut are read back, and nothing behind them. Conditions: none beyond the card's own. -/
import Derived.Test.YthjkpkkkjndjlaaDoorCut
import Derived.Test.YthjkpkkkjndjlaaDoorReadT
import Derived.Test.YthjkpkkkjndjlaaDoorRowI
namespace Go.Proofs.YthjkpkkkjndjlaaDoor
open Go.RowKit
namespace fnTextsCut
structure EnvC (w : World) : Prop where
  utf8 : Utf8Ok w
  err : ∃ ay, ErrOk ay w
theorem env {W : World} (h : laidMet Tryd.prog Rows.fnTextsCutUptoRow.laid W) : EnvC W :=
  ⟨utf8_of h (by simp [Rows.fnTextsCutUptoRow]) (by simp [Rows.fnTextsCutUptoRow]), err_of (laidMet.tail h)⟩

abbrev C (T : List ByteArray) (i n : Nat) : List UInt8 := catQ (fun _ => pA) T i n
/-- Where the j-th text ends. -/
def L (T : List ByteArray) (j : Nat) : Nat := (C T 0 j).length
def endsL (T : List ByteArray) (j : Nat) : List Int := (List.range j).map fun i => (L T (i + 1) : Int)
theorem endsL_snoc (T : List ByteArray) (j : Nat) : endsL T (j + 1) = endsL T j ++ [(L T (j + 1) : Int)] := by simp [endsL, List.range_succ]
theorem endsL_len (T : List ByteArray) (j : Nat) : (endsL T j).length = j := by simp [endsL]
theorem endsL_get (T : List ByteArray) (j i : Nat) (h : i < (endsL T j).length) : (endsL T j)[i]'h = (L T (i + 1) : Int) := by simp [endsL]
theorem L_zero (T : List ByteArray) : L T 0 = 0 := rfl
theorem L_succ (T : List ByteArray) (j : Nat) (h : j < T.length) : L T (j + 1) = L T j + (qZ pA (T[j]'h).data.toList).length := by
  rw [L, C, catQ_snoc _ T j h, List.length_append]
  simp [L, nb]
theorem L_mono (T : List ByteArray) (i j : Nat) (h : i ≤ j) (hj : j ≤ T.length) : L T i ≤ L T j := by
  induction j with
  | zero => obtain rfl : i = 0 := by omega
            exact Nat.le_refl _
  | succ j ih =>
    by_cases e : i = j + 1
    · subst e; exact Nat.le_refl _
    · have h1 := ih (by omega) (by omega)
      have h2 := L_succ T j (by omega)
      omega

/-- The text ahead of a round: the quoted text that is read there, and the rest. -/
theorem cut_facts (T : List ByteArray) (n : Nat) (e : T.length = n) (hb : bulkT T ≤ 1048576) (k j : Nat) (h : j < T.length) (hk : L T (j + 1) ≤ k) :
    ∃ (Q : List Int) (Qs : ByteArray) (R : List UInt8), Qs = bs (nb Q) ∧ R = (C T (j + 1) (n - (j + 1))).take (k - L T (j + 1)) ∧ (C T j (n - j)).take (k - L T j) = nb Q ++ R ∧ (bs (nb Q ++ R)).extract Q.length (Q.length + R.length) = bs R ∧ Q = qZ pA (T[j]'h).data.toList ∧ 10 * (T[j]'h).data.toList.length + Q.length ≤ 20971522 ∧ Q.length + R.length ≤ 10485760 := by
  subst e
  have h1 := catQ_cons (fun _ => pA) T j (T.length - (j + 1)) h
  rw [show T.length - (j + 1) + 1 = T.length - j by omega] at h1
  have h2 := catQ_tail (fun _ => pA) T j (by omega)
  have h3 := bulk_mem T j h
  have h4 : (T[j]'h).data.toList.length = (T[j]'h).size := Array.length_toList
  have h5 := qZ_len pA (T[j]'h).data.toList
  have h6 := L_succ T j h
  have h7 : (nb (qZ pA (T[j]'h).data.toList)).length = (qZ pA (T[j]'h).data.toList).length := by simp [nb]
  refine ⟨qZ pA (T[j]'h).data.toList, _, _, rfl, rfl, ?_, ?_, rfl, by omega, ?_⟩
  · rw [C, h1, List.take_append, List.take_of_length_le (by omega)]
    congr 2
    omega
  · exact bs_drop _ _ _ _ (by simp [nb]) (by simp [nb])
  · rw [h1, List.length_append, h7] at h2
    have h8 : (C T (j + 1) (T.length - (j + 1))).length = (catQ (fun _ => pA) T (j + 1) (T.length - (j + 1))).length := rfl
    rw [List.length_take, h8]
    omega
theorem last_facts (T : List ByteArray) (n : Nat) (e : T.length = n) (k j : Nat) (h : j < T.length) (h0 : L T j ≤ k) (hk : k < L T (j + 1)) :
    (C T j (n - j)).take (k - L T j) = (nb (qZ pA (T[j]'h).data.toList)).take (k - L T j) ∧ k - L T j < (nb (qZ pA (T[j]'h).data.toList)).length := by
  subst e
  have h1 := catQ_cons (fun _ => pA) T j (T.length - (j + 1)) h
  rw [show T.length - (j + 1) + 1 = T.length - j by omega] at h1
  have h6 := L_succ T j h
  have h7 : (nb (qZ pA (T[j]'h).data.toList)).length = (qZ pA (T[j]'h).data.toList).length := by simp [nb]
  refine ⟨?_, by omega⟩
  rw [C, h1, List.take_append_of_le_length (by omega)]

set_option maxHeartbeats 1000000 in
set_option maxRecDepth 100000 in
theorem walkOf (w : World) (a : Option Addr) (n c : Nat) (T : List ByteArray) (e1 : T.length = n) (hin : StrsIn w a T) (hb : bulkT T ≤ 1048576) (x : Int) (hx0 : -9223372036854775808 ≤ x) (hx1 : x ≤ 9223372036854775807) (hE : EnvC w) :
    Calls Tryd.prog 10 #[.slice a n c, .int .i64 x] w fun e w' => e = .returned (.bool true) ∧ Below w.heap.size w w' := by
  obtain ⟨ay, hErr⟩ := hE.err
  have hn : n ≤ 5242880 := by
    have h2 := catQ_len (fun _ => pA) T T.length (Nat.le_refl _)
    rw [List.take_length] at h2
    omega
  have HIN := Lib.hid hin
  have HB := Lib.hid hb
  have HU := Lib.hid hE.utf8
  have HR := Lib.hid hErr
  have E1 := Lib.hid e1
  clear hin hb hE e1 hErr
  go_enter Tryd.func10, Tryd.ntmps10
  go_wp2
  go_loopw [5, 6, 8, 20] (fun vt ve _ vj wr => ∃ (j : Nat) (W : ByteArray), j ≤ n ∧ vj = .int .i64 j ∧ vt = .string W ∧ Hid (W = bs (C T 0 j)) ∧ wr.ownsRow w.heap.size 3 1 ve j (iCells (endsL T j)) ∧ Below w.heap.size w wr) (fun _ _ _ vj _ => n - (intOf vj).toNat)
  case atStart => exact ⟨0, ⟨#[]⟩, by omega, rfl, rfl, rfl, World.ownsRow_nil _ _ _ _, Below.refl _ _⟩
  case round =>
    obtain ⟨j, W, hj, rfl, rfl, HW, o1, hbel⟩ := hrel
    by_cases hlt : j < n
    · have j3 : j < T.length := by rw [E1.out]; omega
      obtain ⟨b3, o3, rfl, k3⟩ := (HIN.out.on hbel) j j3
      have hsn := catQ_snoc (fun _ => pA) T j j3
      have hln := catQ_len (fun _ => pA) T (j + 1) (by omega)
      have hbl := bulk_le T (j + 1)
      have hbm := bulk_mem T j j3
      have hb0 := HB.out
      have h4 : (T[j]'j3).data.toList.length = (T[j]'j3).size := Array.length_toList
      have hF := QuoteToASCII_any Lib.goPrintTabs grTab (T[j]'j3).data.toList wr (by omega) (HU.out.on hbel)
      rw [bs_eta] at hF
      have hX : bs (C T 0 (j + 1)) = W ++ bs (nb (qZ pA (T[j]'j3).data.toList)) := by rw [C, hsn, ← bs_append, HW.out]
      have hsz : (bs (C T 0 (j + 1))).size = L T (j + 1) := by rw [bs_size]; rfl
      have hL : L T (j + 1) ≤ 10485760 := by rw [L, C]; omega
      have hsz2 : W.size + (bs (nb (qZ pA (T[j]'j3).data.toList))).size ≤ 10485760 := by rw [← ByteArray.size_append, ← hX, hsz]; exact hL
      have hes := endsL_snoc T j
      obtain ⟨W', hW'⟩ : ∃ W', W' = bs (C T 0 (j + 1)) := ⟨_, rfl⟩
      rw [← hW'] at hX hsz
      obtain ⟨l, hl⟩ : ∃ l, l = L T (j + 1) := ⟨_, rfl⟩
      rw [← hl] at hes hsz hL
      have hcat := hX.symm
      have HW' := Lib.hid hW'
      have HF := Lib.hid hF
      have HES := Lib.hid hes
      clear hX hF hsn hln hbl hbm hb0 h4 hW' hl hes
      generalize T[j] = S at *
      generalize bs (nb (qZ pA S.data.toList)) = Q at *
      generalize endsL T j = el at *
      go_wp2_with (go_at_call 12; refine HF.out.mono ?_; rintro e w1 ⟨rfl, hw1⟩; refine Hid.out ?_)
      refine Lib.hid ?_
      have p1 := own_below o1 hw1
      have hb1 := hbel.trans (hw1.mono hbel.size)
      clear o1
      go_wp2_with (at_builtin; refine append_one rfl _ _ Tryd.underlying23 infoInt rfl rfl w.heap.size w _ (iCells el) j rfl (p1.alloc _) (.int .i64 (l : Int)) rfl w1.heap.size rfl (new_one _ _ _) (by omega) (by omega) (hb1.alloc hb1.size _) (Nat.le_refl _) ?_; intro v1' w2 q1 hb2 hg2; refine Hid.out ?_)
      refine Lib.hid ?_
      have Q1 := Lib.hid q1
      clear q1 hg2 p1
      go_wp2
      refine ⟨⟨j + 1, W', by omega, by go_num, rfl, HW', ?_, hb2⟩, by simp [intOf]; omega⟩
      rw [HES.out]
      simpa [iCells] using Q1.out
    · obtain rfl : j = n := by omega
      obtain ⟨ea, ec, rfl⟩ := own_shape o1
      have hlen : W.size = L T j := by rw [HW.out, bs_size]; rfl
      have hl2 : 2 * j ≤ L T j ∧ L T j ≤ 10485760 := by
        have hln := catQ_len (fun _ => pA) T j (by rw [E1.out]; omega)
        have hbl := bulk_le T j
        have hb0 := HB.out
        rw [L, C]
        omega
      obtain ⟨l, hl⟩ : ∃ l, L T j = l := ⟨_, rfl⟩
      rw [hl] at hlen hl2
      have HL := Lib.hid hl
      have O1 := Lib.hid o1
      clear o1 hlt hj hl
      have g2 : decide (2 * (j : Int) ≤ (l : Int)) = true := by simp; omega
      by_cases hneg : x < 0
      · have g1 : decide (x < 0) = true := by simpa using hneg
        go_wp2
        go_ret
        exact ⟨rfl, hbel⟩
      · have g1 : decide (x < 0) = false := by simpa using hneg
        obtain ⟨k, rfl⟩ : ∃ k : Nat, x = k := ⟨x.toNat, by omega⟩
        by_cases hbig : l ≤ k
        · have g3 : decide ((l : Int) ≤ (k : Int)) = true := by simp; omega
          go_wp2
          go_ret
          exact ⟨rfl, hbel⟩
        · have g3 : decide ((l : Int) ≤ (k : Int)) = false := by simp; omega
          have hx : W.extract 0 k = bs ((C T 0 (j - 0)).take (k - L T 0)) := by rw [HW.out, bs_take]; rfl
          obtain ⟨W0, hW0⟩ : ∃ W0, W0 = bs ((C T 0 (j - 0)).take (k - L T 0)) := ⟨_, rfl⟩
          rw [← hW0] at hx
          have HW0 := Lib.hid hW0
          clear hW0 hneg
          go_wp2
          go_loop [9] (fun vi => ∃ i : Nat, i ≤ j ∧ vi = .int .i64 i ∧ Hid (L T i ≤ k)) (fun vi => j - (intOf vi).toNat)
          case atStart => exact ⟨0, by omega, rfl, Nat.zero_le _⟩
          case round =>
            obtain ⟨i, hi, rfl, HK⟩ := hrel
            have hij : i < j := by
              rcases Nat.lt_or_ge i j with h | h
              · exact h
              · obtain rfl : i = j := by omega
                have h5 := HK.out
                have h6 := HL.out
                omega
            obtain ⟨g9, rfl, k1⟩ := own_int O1.out i (by rw [endsL_len]; exact hij)
            rw [endsL_get] at k1
            obtain ⟨li, hli⟩ : ∃ li, L T (i + 1) = li := ⟨_, rfl⟩
            rw [hli] at k1
            have HLI := Lib.hid hli
            clear hli
            by_cases hle : li ≤ k
            · have g4 : decide ((li : Int) ≤ (k : Int)) = true := by simp; omega
              go_wp2
              go_round
              case rel => exact ⟨i + 1, by omega, by go_num, by show L T (i + 1) ≤ k; rw [HLI.out]; exact hle⟩
              case measure => simp [intOf]; omega
            · have g4 : decide ((li : Int) ≤ (k : Int)) = false := by simp; omega
              go_wp2
              go_loopw [10, 11, 12, 13, 14, 15, 66] (fun vr _ _ _ _ _ vj wr => ∃ (m : Nat) (V : ByteArray), m ≤ i ∧ vj = .int .i64 m ∧ vr = .string V ∧ Hid (V = bs ((C T m (j - m)).take (k - L T m))) ∧ Below w.heap.size w wr) (fun _ _ _ _ _ _ vj _ => i - (intOf vj).toNat)
              case atStart => exact ⟨0, W0, by omega, rfl, rfl, HW0, hbel⟩
              case round =>
                obtain ⟨m, V, hm, rfl, rfl, HV, hbm⟩ := hrel
                have j3 : m < T.length := by rw [E1.out]; omega
                by_cases hlt2 : m < i
                · obtain ⟨b3, o3, rfl, k3⟩ := (HIN.out.on hbm) m j3
                  have hmk : L T (m + 1) ≤ k := Nat.le_trans (L_mono T (m + 1) i (by omega) (by rw [E1.out]; omega)) HK.out
                  obtain ⟨Q, Qs, R, hQs, hR, hW, hext, hq, hl1, hl3⟩ := cut_facts T j E1.out HB.out k m j3 hmk
                  have hVe : V = bs (nb Q ++ R) := by rw [HV.out, hW]
                  have hsz : V.size = Q.length + R.length := by rw [hVe, bs_size]; simp [nb]
                  have hx2 : V.extract Q.length (Q.length + R.length) = bs R := by rw [hVe, hext]
                  have hqs : Qs.size = Q.length := by rw [hQs, bs_size]; simp [nb]
                  have cQ : Calls Tryd.prog 19 #[.string V] wr fun e w' => e = .returned (.tuple #[.string Qs, .bool true]) ∧ Below wr.heap.size wr w' := by
                    rw [hVe, hQs, hq]
                    exact QuotedPrefix_any pA okA _ R (by omega) wr (HU.out.on hbm)
                  have cU : ∀ w1, Below w.heap.size w w1 → Calls Tryd.prog 17 #[.string Qs] w1 fun e w' => e = .returned (.tuple #[.string (T[m]'j3), .bool true]) ∧ Below w1.heap.size w1 w' := fun w1 h1 => by
                    rw [hQs, hq]
                    have := Unquote_any pA okA (T[m]'j3).data.toList (by omega) w1 (HU.out.on h1)
                    rwa [bs_eta] at this
                  have CQ := Lib.hid cQ
                  have CU := Lib.hid cU
                  have HR2 := Lib.hid (congrArg bs hR)
                  clear cQ cU hR hQs hW hext hq hVe hmk hx HW0
                  generalize T[m] = S at *
                  generalize Q.length = q at *
                  generalize bs R = Rs at *
                  have hrl : R.length ≤ 10485760 := by omega
                  have hql : q ≤ 10485762 := by omega
                  clear hl1 hl3
                  generalize R.length = r at *
                  go_wp2_with (first
                    | (go_at_call 19; refine CQ.out.mono ?_; rintro e w1 ⟨rfl, hw1⟩)
                    | (go_at_call 17; refine (CU.out _ (hbm.trans (hw1.mono hbm.size))).mono ?_; rintro e w2 ⟨rfl, hw2⟩; refine Hid.out ?_))
                  refine Lib.hid ?_
                  have B12 : Below wr.heap.size wr w2 := hw1.trans (hw2.mono hw1.size)
                  have k4 : w2.cell? ⟨b3, o3 + m, none⟩ = some (.string S) := (B12.cell (p := ⟨b3, o3 + m, none⟩) (Lib.lt_of_cell k3)).trans k3
                  clear k3
                  go_wp2
                  exact ⟨⟨m + 1, Rs, by omega, by go_num, rfl, HR2, (hbm.trans (hw1.mono hbm.size)).trans (hw2.mono (hbm.trans (hw1.mono hbm.size)).size)⟩, by simp [intOf]; omega⟩
                · obtain rfl : m = i := by omega
                  obtain ⟨he, hlt3⟩ := last_facts T j E1.out k m j3 HK.out (by rw [HLI.out]; omega)
                  have hbm3 := bulk_mem T m j3
                  have hb0 := HB.out
                  have h4 : (T[m]'j3).data.toList.length = (T[m]'j3).size := Array.length_toList
                  have cQ := QuotedPrefix_cut (T[m]'j3).data.toList (k - L T m) hlt3 (by omega) ay wr (HU.out.on hbm) (HR.out.on hbm)
                  rw [← he, ← HV.out] at cQ
                  have CQ := Lib.hid cQ
                  clear cQ he hlt3 hbm3 hb0 h4 hx HW0
                  go_wp2_with (go_at_call 19; refine CQ.out.mono ?_; rintro e w1 ⟨rfl, hw1⟩)
                  go_ret
                  exact ⟨rfl, hbm.trans (hw1.mono hbm.size)⟩

theorem walk (a1 : Option Addr) (n1 c1 : Nat) (T : List ByteArray) (e1 : T.length = n1) (_l1 : n1 ≤ c1) (_m1 : c1 ≤ maxLen) (w : World) (i1 : StrsIn w a1 T) (_wf1 : ∀ x ∈ T, x.size ≤ maxLen) (b1 : (T.map (fun s => s.size + 1)).sum ≤ 1048576)
    (x : Int) (hx : (Lit.int .i64 x).wf = true) (hE : EnvC w) :
    Calls Tryd.prog 10 #[.slice a1 n1 c1, .int .i64 x] w fun e w' => e = .returned (.bool true) ∧ Below w.heap.size w w' :=
  walkOf w a1 n1 c1 T e1 i1 b1 x (wf_i64 hx).1 (wf_i64 hx).2 hE
end fnTextsCut
namespace fnTextsCut
open Go.ChangeShapes Go.WideShapes Go.ChangeAt Go.RowKit
set_option maxRecDepth 100000 in
theorem contract (H : Type) (enc : TypeId × Value → H) (W : World) (base : Nat) (args : Array Value) (ds gs : List (DataW H)) (before : List MemPlace)
    (hval : ∀ (j : Nat) t v, Tryd.f10.params[j]? = some t → args[j]? = some v → Value.okWide Tryd.prog W .any base t v)
    (hW : DataW.Whole enc Tryd.prog Tryd.f10.params.toList Rows.fnTextsCutSpec.vars false W args.toList ds gs before) (hL : laidMet Tryd.prog Rows.fnTextsCutUptoRow.laid W) (hk : Rows.uptoSmall H (ds ++ gs) = true) :
    Calls Tryd.prog 10 args W fun e W' => ∃ v, e = .returned v ∧ Rows.fnTextsCutSpec.post enc Tryd.prog Tryd.f10 false true false false W args v W' := by
  have hW' := hW
  obtain ⟨p, q, hA0, hV, rfl, hfz, hnd⟩ := hW
  have hA : DataW.TrodAll enc Tryd.prog W 0 (fun _ => true) true Tryd.f10.params.toList args.toList ds p := hA0
  rw [Tryd.params10] at hA hval
  obtain ⟨v0, vs0, d0, ds0, p0, q0, hargs, rfl, rfl, h0, r0⟩ := trodAll_cons hA
  obtain ⟨v1, vs1, d1, ds1, p1, q1, rfl, rfl, rfl, h1, r1⟩ := trodAll_cons r0
  obtain ⟨rfl, rfl, rfl⟩ := trodAll_nil r1
  obtain rfl : args = #[v0, v1] := by cases args; simp_all
  obtain ⟨rfl, rfl⟩ := trodVars_none hV
  obtain ⟨a0, len0, cap0, rfl⟩ := okWide_slice Tryd.underlying22 (hval 0 22 v0 rfl rfl)
  obtain ⟨xs0, ex0, lc0, cm0, in0, wf0, bk0⟩ := opened_strs Tryd.underlying22 Tryd.underlying9 (by kernel_rfl) h0
  have bd0 : (xs0.map (fun s => s.size + 1)).sum ≤ 1048576 := by have hs := small hk; simp only [Rows.uptoBulkAll, List.append_nil] at hs; omega
  obtain ⟨x1, rfl, rfl, rfl, w1⟩ := open_int Tryd.underlying3 (hval 1 3 v1 rfl rfl) h1
  clear hA0
  simp only [List.append_nil] at hW'
  have hlt := fun x hx => hW'.lt x hx
  refine (walk a0 len0 cap0 xs0 ex0 lc0 cm0 W in0 wf0 bd0 x1 w1 (env hL)).mono fun e W' ⟨he, hg⟩ => ?_
  subst he
  have hback := trodAll_cons_mk (Below.trod laidOut (by kernel_rfl) (of_decide_eq_true (by kernel_rfl)) h0 hg (fun x hx => hlt x (by simp [hx]))) (trodAll_cons_mk (shut_int Tryd.underlying3 w1) (trodAll_mk0))
  exact ⟨_, rfl, _, _, _, [], _, [], hW', trodAll_cons_mk (shut_bool Tryd.underlying4 _) trodAll_mk0, hback, rfl, hg.frame _, fun h => by cases h⟩

theorem plainList : laidMetH Tryd.prog Rows.fnTextsCutUptoRow.laid = laidMet Tryd.prog Rows.fnTextsCutUptoRow.laid := funext fun _ => MakeChecks.laidMetH_plain _ _ _ (by kernel_rfl)
theorem laid_met (os : Os) : laidMetH Tryd.prog Rows.fnTextsCutUptoRow.laid ((World.laidAll Tryd.prog os Rows.fnTextsCutUptoRow.laid).forCall (fun _ _ => 0) ⟨#[], #[.slice none 0 0, .int .i64 0], []⟩).memory := by
  rw [plainList]; exact laidMet_laidAll _ (by kernel_rfl) (by kernel_rfl)
theorem reads (os : Os) {H : Type} (enc : TypeId × Value → H) : ∃ places, DataW.whole enc Tryd.prog ((World.laidAll Tryd.prog os Rows.fnTextsCutUptoRow.laid).forCall (fun _ _ => 0) ⟨#[], #[.slice none 0 0, .int .i64 0], []⟩).memory Tryd.f10.params.toList Rows.fnTextsCutSpec.vars false #[(.slice none 0 0 : Value), (.int .i64 0 : Value)].toList 8 = some ([.nil, .lit (.int .i64 0)], [], places) :=
  ⟨[], by kernel_rfl⟩

set_option maxRecDepth 100000 in
theorem lifted (os : Os) (started : os.Started) (H : Type) (enc : TypeId × Value → H) (F : Stop.Interp) :
    ReturnsInHanded {} Tryd.checked os 10 .any ((Rows.OpenSpec.upto Rows.fnTextsCutSpec).preRow enc Tryd.prog Tryd.f10 Rows.fnTextsCutUptoRow.domain false Rows.fnTextsCutUptoRow.laid) (((Rows.OpenSpec.upto Rows.fnTextsCutSpec).at F).post enc Tryd.prog Tryd.f10 false true false false) := by
  obtain ⟨places, hx⟩ := reads os enc
  refine returnsInHanded_of_row (C := Tryd.checked) (s := Rows.OpenSpec.upto Rows.fnTextsCutSpec) ownKnobs started (by kernel_rfl) Tryd.func10
    (witness_laid #[.slice none 0 0, .int .i64 0] (World.shaped_of_ZipB (by kernel_rfl) (by kernel_rfl)) (by kernel_rfl)
      (OpenSpec.preRow_of_cond 8 hx (by kernel_rfl) (fun k hk => by cases hk; kernel_rfl) (by kernel_rfl) (laid_met os))) ?_
  intro W base args ds gs before hval hW _ hcond _ hL _ _
  have hL2 : laidMetH Tryd.prog Rows.fnTextsCutUptoRow.laid W := hL
  rw [plainList] at hL2
  exact contract H enc W base args ds gs before hval hW hL2 (hcond _ rfl)

theorem said : Rows.FnTextsCutUptoSaid :=
  OpenClaim.holds_of_cond 10 Tryd.f10 rfl rfl rfl rfl rfl rfl rfl ⟨rfl, rfl, rfl, rfl, rfl⟩ rfl rfl rfl rfl rfl (by kernel_rfl) Tryd.func10 (by kernel_rfl)
    (of_decide_eq_true (by kernel_rfl)) (by unfold Func.isWrapper; first | (rw [if_pos (by decide +kernel)]; kernel_rfl) | (rw [if_neg (by decide +kernel)]; exact ⟨rfl, rfl⟩))
    (fun os started H enc _ F => by rw [OpenClaim.pre_eq_preRow]; exact lifted os started H enc F)

theorem plain (f : FuncId) (fn : Func) (hf : Tryd.pinned.checked.prog.funcNamed "loop.example/lib-g01429/laws.FnTextsCut" = some f) (hfn : Tryd.pinned.checked.prog.funcs[f]? = some fn) :
    true = Tryd.pinned.checked.prog.looks [] ∧ ∀ (j : Nat) t, fn.params[j]? = some t → Tryd.pinned.checked.prog.wantsStandIn t = false := by
  obtain rfl : f = 10 := Option.some.inj ((show Tryd.prog.funcNamed "loop.example/lib-g01429/laws.FnTextsCut" = some 10 by kernel_rfl).symm.trans hf) |>.symm
  obtain rfl : fn = Tryd.f10 := (Option.some.inj (Tryd.func10.symm.trans hfn)).symm
  refine ⟨by kernel_rfl, fun j t ht => ?_⟩
  rw [Tryd.params10] at ht
  have hm := Array.mem_of_getElem? ht
  simp only [List.mem_toArray, List.mem_cons, List.not_mem_nil, or_false] at hm
  rcases hm with rfl | rfl
  · exact (show Tryd.prog.wantsStandIn 22 = false by kernel_rfl)
  · exact (show Tryd.prog.wantsStandIn 3 = false by kernel_rfl)

/-- THE CARD. -/
theorem card : Rows.FnTextsCutUptoCardSaid :=
  Claim7.holds_tied_plain_at .later [] _ _ _ _ said (fun _ h => by cases h) (by kernel_rfl) (fun _ h => by cases h) fnTextsCutUpto_row_tie rfl ⟨rfl, rfl⟩ (by kernel_rfl) rfl plain (by kernel_rfl)
end fnTextsCut
end Go.Proofs.YthjkpkkkjndjlaaDoor
