/- FnTextsMixed returns true for all texts of bounded bulk and all kinds: texts quoted in any of the three forms, one behind the other, are read back. Conditions: none beyond the card's own. -/
import Derived.Test.YthjkpkkkjndjlaaDoorReadT
namespace Go.Proofs.YthjkpkkkjndjlaaDoor
open Go.RowKit
namespace fnTextsMixed
theorem env {W : World} (h : laidMet Tryd.prog Rows.fnTextsMixedUptoRow.laid W) : EnvX W :=
  ⟨print_of h (by simp [Rows.fnTextsMixedUptoRow]) (by simp [Rows.fnTextsMixedUptoRow]) (by simp [Rows.fnTextsMixedUptoRow]) (by simp [Rows.fnTextsMixedUptoRow]) (by simp [Rows.fnTextsMixedUptoRow]), utf8_of h (by simp [Rows.fnTextsMixedUptoRow]) (by simp [Rows.fnTextsMixedUptoRow])⟩

/-- The form of a kind. -/
def form (k : Int) : Int → Bool := if k.tmod 3 = 0 then pQ else if k.tmod 3 = 1 then pA else pG
theorem form_ok (k : Int) : FormOk (form k) := by
  unfold form
  split
  · exact okQ
  · split
    · exact okA
    · exact okG
def kindAt (K : List Int) (i : Nat) : Int := if 0 < K.length then K.getD (i % K.length) 0 else (i : Int)

theorem kind_some (K : List Int) (k : Int) (n2 j : Nat) (e2 : K.length = n2) (h0 : 0 < n2) (hk : k = kindAt K j) : ∃ (m : Nat), Int.tmod (j : Int) (n2 : Int) = (m : Int) ∧ ∃ (hm : m < n2), (K[m]'(by omega)) = k := by
  subst e2
  have hm := Nat.mod_lt j h0
  refine ⟨j % K.length, by rw [Int.tmod_eq_emod_of_nonneg (by omega)]; omega, hm, ?_⟩
  rw [hk, kindAt, if_pos h0]
  simp [List.getD, hm]
theorem kind_none (K : List Int) (k : Int) (n2 j : Nat) (e2 : K.length = n2) (h0 : ¬ 0 < n2) (hk : k = kindAt K j) : k = (j : Int) := by
  rw [hk, kindAt, if_neg (by omega)]

set_option maxRecDepth 100000 in
theorem walkOf (w : World) (a : Option Addr) (n c : Nat) (T : List ByteArray) (e1 : T.length = n) (hin : StrsIn w a T) (hb : bulkT T ≤ 1048576)
    (a2 : Option Addr) (n2 c2 : Nat) (K : List Int) (e2 : K.length = n2) (hin2 : IntsIn w a2 K) (hb2 : n2 ≤ 1048576) (hE : EnvX w) :
    Calls Tryd.prog 3 #[.slice a n c, .slice a2 n2 c2] w fun e w' => e = .returned (.bool true) ∧ Below w.heap.size w w' := by
  obtain ⟨P, hPd⟩ : ∃ P : Nat → Int → Bool, P = fun k => form (kindAt K k) := ⟨_, rfl⟩
  have hP : ∀ k, FormOk (P k) := fun k => by rw [hPd]; exact form_ok _
  have hn : n ≤ 5242880 := by
    have h2 := catQ_len P T T.length (Nat.le_refl _)
    rw [List.take_length] at h2
    omega
  have HPD := Lib.hid hPd
  have HP := Lib.hid hP
  have HIN := Lib.hid hin
  have HIN2 := Lib.hid hin2
  have HB := Lib.hid hb
  have HE := Lib.hid hE
  have E1 := Lib.hid e1
  have E2 := Lib.hid e2
  clear hin hin2 hb hE e1 e2 hP hPd
  go_enter Tryd.func3, Tryd.ntmps3
  go_wp2
  -- printed by mixed.py
  go_loopw [5, 6, 7, 8, 11] (fun vt _ _ _ vj wr => ∃ (j : Nat) (W : ByteArray), j ≤ n ∧ vj = .int .i64 j ∧ vt = .string W ∧ Hid (W = bs (catQ P T 0 j)) ∧ Below w.heap.size w wr) (fun _ _ _ _ vj _ => n - (intOf vj).toNat)
  case atStart => exact ⟨0, ⟨#[]⟩, by omega, rfl, rfl, rfl, Below.refl _ _⟩
  case round =>
    obtain ⟨j, W, hj, rfl, rfl, HW, hbel⟩ := hrel
    by_cases hlt : j < n
    · have j3 : j < T.length := by rw [E1.out]; omega
      obtain ⟨b3, o3, rfl, k3⟩ := (HIN.out.on hbel) j j3
      have hsn := catQ_snoc P T j j3
      have hln := catQ_len P T (j + 1) (by omega)
      have hbl := bulk_le T (j + 1)
      have hbm := bulk_mem T j j3
      have hb0 := HB.out
      have h4 : (T[j]'j3).data.toList.length = (T[j]'j3).size := Array.length_toList
      have hlm : 10 * (T[j]'j3).data.toList.length + 12 ≤ 140737488355328 := by omega
      have hX : bs (catQ P T 0 (j + 1)) = W ++ bs (nb (qZ (P j) (T[j]'j3).data.toList)) := by rw [hsn, ← bs_append, HW.out]
      have hsz : (bs (catQ P T 0 (j + 1))).size ≤ 10485760 := by rw [bs_size]; omega
      rw [hX, ByteArray.size_append] at hsz
      clear hsn hln hbl hbm hb0 h4
      obtain ⟨k, hkd⟩ : ∃ k, Hid (k = kindAt K j) := ⟨_, rfl⟩
      by_cases q0 : k.tmod 3 = 0
      · have hfm : P j = pQ := by rw [HPD.out]; show form (kindAt K j) = _; rw [← hkd.out, form, if_pos q0]
        have hF := Quote_any Lib.goPrintTabs grTab (T[j]'j3).data.toList wr hlm (HE.out.on hbel).print (HE.out.on hbel).utf8
        rw [bs_eta] at hF
        rw [hfm] at hX hsz
        have HX := Lib.hid hX
        have HF := Lib.hid hF
        clear hX hF hfm HPD
        generalize T[j] = S at *
        generalize bs (nb (qZ pQ S.data.toList)) = Q at *
        by_cases h0 : 0 < n2
        · have g0 : decide (0 < n2) = true := by simpa using h0
          obtain ⟨m, hmd, hm, hk⟩ := kind_some K k n2 j E2.out h0 hkd.out
          obtain ⟨b4, o4, rfl, k4⟩ := (HIN2.out.on hbel) m (by rw [E2.out]; exact hm)
          rw [hk] at k4
          have hz : ((n2 : Int) == 0) = false := by simp; omega
          clear hk
          go_wp2_with (go_at_call 11; refine HF.out.mono ?_; rintro e w1 ⟨rfl, hw1⟩; refine Hid.out ?_)
          refine Lib.hid ?_
          go_wp2
          exact ⟨⟨j + 1, _, by omega, by go_num, rfl, HX.out.symm, hbel.trans (hw1.mono hbel.size)⟩, by simp [intOf]; omega⟩
        · have g0 : decide (0 < n2) = false := by simpa using h0
          obtain rfl : k = (j : Int) := kind_none K k n2 j E2.out h0 hkd.out
          have e3 : Int.tmod (j : Int) 3 = (j : Int) % 3 := Int.tmod_eq_emod_of_nonneg (by omega)
          rw [e3] at q0
          clear e3
          go_wp2_with (go_at_call 11; refine HF.out.mono ?_; rintro e w1 ⟨rfl, hw1⟩; refine Hid.out ?_)
          refine Lib.hid ?_
          go_wp2
          exact ⟨⟨j + 1, _, by omega, by go_num, rfl, HX.out.symm, hbel.trans (hw1.mono hbel.size)⟩, by simp [intOf]; omega⟩
      by_cases q1 : k.tmod 3 = 1
      · have hfm : P j = pA := by rw [HPD.out]; show form (kindAt K j) = _; rw [← hkd.out, form, if_neg q0, if_pos q1]
        have hF := QuoteToASCII_any Lib.goPrintTabs grTab (T[j]'j3).data.toList wr hlm (HE.out.on hbel).utf8
        rw [bs_eta] at hF
        rw [hfm] at hX hsz
        have HX := Lib.hid hX
        have HF := Lib.hid hF
        clear hX hF hfm HPD
        generalize T[j] = S at *
        generalize bs (nb (qZ pA S.data.toList)) = Q at *
        by_cases h0 : 0 < n2
        · have g0 : decide (0 < n2) = true := by simpa using h0
          obtain ⟨m, hmd, hm, hk⟩ := kind_some K k n2 j E2.out h0 hkd.out
          obtain ⟨b4, o4, rfl, k4⟩ := (HIN2.out.on hbel) m (by rw [E2.out]; exact hm)
          rw [hk] at k4
          have hz : ((n2 : Int) == 0) = false := by simp; omega
          clear hk
          go_wp2_with (go_at_call 12; refine HF.out.mono ?_; rintro e w1 ⟨rfl, hw1⟩; refine Hid.out ?_)
          refine Lib.hid ?_
          go_wp2
          exact ⟨⟨j + 1, _, by omega, by go_num, rfl, HX.out.symm, hbel.trans (hw1.mono hbel.size)⟩, by simp [intOf]; omega⟩
        · have g0 : decide (0 < n2) = false := by simpa using h0
          obtain rfl : k = (j : Int) := kind_none K k n2 j E2.out h0 hkd.out
          have e3 : Int.tmod (j : Int) 3 = (j : Int) % 3 := Int.tmod_eq_emod_of_nonneg (by omega)
          rw [e3] at q0 q1
          clear e3
          go_wp2_with (go_at_call 12; refine HF.out.mono ?_; rintro e w1 ⟨rfl, hw1⟩; refine Hid.out ?_)
          refine Lib.hid ?_
          go_wp2
          exact ⟨⟨j + 1, _, by omega, by go_num, rfl, HX.out.symm, hbel.trans (hw1.mono hbel.size)⟩, by simp [intOf]; omega⟩
      have hfm : P j = pG := by rw [HPD.out]; show form (kindAt K j) = _; rw [← hkd.out, form, if_neg q0, if_neg q1]
      have p0 : (k.tmod 3 == 0) = false := by simpa using q0
      have p1 : (k.tmod 3 == 1) = false := by simpa using q1
      have hF := QuoteToGraphic_any Lib.goPrintTabs grTab (T[j]'j3).data.toList wr hlm (HE.out.on hbel).print (HE.out.on hbel).utf8
      rw [bs_eta] at hF
      rw [hfm] at hX hsz
      have HX := Lib.hid hX
      have HF := Lib.hid hF
      clear hX hF hfm HPD
      generalize T[j] = S at *
      generalize bs (nb (qZ pG S.data.toList)) = Q at *
      by_cases h0 : 0 < n2
      · have g0 : decide (0 < n2) = true := by simpa using h0
        obtain ⟨m, hmd, hm, hk⟩ := kind_some K k n2 j E2.out h0 hkd.out
        obtain ⟨b4, o4, rfl, k4⟩ := (HIN2.out.on hbel) m (by rw [E2.out]; exact hm)
        rw [hk] at k4
        have hz : ((n2 : Int) == 0) = false := by simp; omega
        clear hk
        go_wp2_with (go_at_call 13; refine HF.out.mono ?_; rintro e w1 ⟨rfl, hw1⟩; refine Hid.out ?_)
        refine Lib.hid ?_
        go_wp2
        exact ⟨⟨j + 1, _, by omega, by go_num, rfl, HX.out.symm, hbel.trans (hw1.mono hbel.size)⟩, by simp [intOf]; omega⟩
      · have g0 : decide (0 < n2) = false := by simpa using h0
        obtain rfl : k = (j : Int) := kind_none K k n2 j E2.out h0 hkd.out
        have e3 : Int.tmod (j : Int) 3 = (j : Int) % 3 := Int.tmod_eq_emod_of_nonneg (by omega)
        rw [e3] at p0 p1
        clear e3
        go_wp2_with (go_at_call 13; refine HF.out.mono ?_; rintro e w1 ⟨rfl, hw1⟩; refine Hid.out ?_)
        refine Lib.hid ?_
        go_wp2
        exact ⟨⟨j + 1, _, by omega, by go_num, rfl, HX.out.symm, hbel.trans (hw1.mono hbel.size)⟩, by simp [intOf]; omega⟩
    · obtain rfl : j = n := by omega
      have cR := readTexts_any P HP.out a j c T E1.out wr (HIN.out.on hbel) HB.out (HE.out.on hbel).utf8
      rw [← HW.out] at cR
      have CR := Lib.hid cR
      clear cR
      go_wp2_with (go_at_call 14; refine CR.out.mono ?_; rintro e w1 ⟨rfl, hw1⟩)
      go_ret
      exact ⟨rfl, hbel.trans (hw1.mono hbel.size)⟩

theorem walk (a1 : Option Addr) (n1 c1 : Nat) (T : List ByteArray) (e1 : T.length = n1) (_l1 : n1 ≤ c1) (_m1 : c1 ≤ maxLen) (w : World) (i1 : StrsIn w a1 T) (_wf1 : ∀ x ∈ T, x.size ≤ maxLen) (b1 : (T.map (fun s => s.size + 1)).sum ≤ 1048576)
    (a2 : Option Addr) (n2 c2 : Nat) (K : List Int) (e2 : K.length = n2) (_l2 : n2 ≤ c2) (_m2 : c2 ≤ maxLen) (w' : World) (hw : w' = w) (i2 : IntsIn w' a2 K) (_wf2 : ∀ x ∈ K, (Lit.int .i64 x).wf = true) (b2 : K.length ≤ 1048576) (hE : EnvX w) :
    Calls Tryd.prog 3 #[.slice a1 n1 c1, .slice a2 n2 c2] w fun e w' => e = .returned (.bool true) ∧ Below w.heap.size w w' := by
  subst hw
  exact walkOf _ a1 n1 c1 T e1 i1 b1 a2 n2 c2 K e2 i2 (by omega) hE
end fnTextsMixed
namespace fnTextsMixed
open Go.ChangeShapes Go.WideShapes Go.ChangeAt Go.RowKit
set_option maxRecDepth 100000 in
theorem contract (H : Type) (enc : TypeId × Value → H) (W : World) (base : Nat) (args : Array Value) (ds gs : List (DataW H)) (before : List MemPlace)
    (hval : ∀ (j : Nat) t v, Tryd.f3.params[j]? = some t → args[j]? = some v → Value.okWide Tryd.prog W .any base t v)
    (hW : DataW.Whole enc Tryd.prog Tryd.f3.params.toList Rows.fnTextsMixedSpec.vars false W args.toList ds gs before) (hL : laidMet Tryd.prog Rows.fnTextsMixedUptoRow.laid W) (hk : Rows.uptoSmall H (ds ++ gs) = true) :
    Calls Tryd.prog 3 args W fun e W' => ∃ v, e = .returned v ∧ Rows.fnTextsMixedSpec.post enc Tryd.prog Tryd.f3 false true false false W args v W' := by
  have hW' := hW
  obtain ⟨p, q, hA0, hV, rfl, hfz, hnd⟩ := hW
  have hA : DataW.TrodAll enc Tryd.prog W 0 (fun _ => true) true Tryd.f3.params.toList args.toList ds p := hA0
  rw [Tryd.params3] at hA hval
  obtain ⟨v0, vs0, d0, ds0, p0, q0, hargs, rfl, rfl, h0, r0⟩ := trodAll_cons hA
  obtain ⟨v1, vs1, d1, ds1, p1, q1, rfl, rfl, rfl, h1, r1⟩ := trodAll_cons r0
  obtain ⟨rfl, rfl, rfl⟩ := trodAll_nil r1
  obtain rfl : args = #[v0, v1] := by cases args; simp_all
  obtain ⟨rfl, rfl⟩ := trodVars_none hV
  obtain ⟨a0, len0, cap0, rfl⟩ := okWide_slice Tryd.underlying22 (hval 0 22 v0 rfl rfl)
  obtain ⟨xs0, ex0, lc0, cm0, in0, wf0, bk0⟩ := opened_strs Tryd.underlying22 Tryd.underlying9 (by kernel_rfl) h0
  have bd0 : (xs0.map (fun s => s.size + 1)).sum ≤ 1048576 := by have hs := small hk; simp only [Rows.uptoBulkAll, List.append_nil] at hs; omega
  obtain ⟨a1, len1, cap1, rfl⟩ := okWide_slice Tryd.underlying23 (hval 1 23 v1 rfl rfl)
  obtain ⟨xs1, ex1, lc1, cm1, in1, wf1, bk1⟩ := opened_ints Tryd.underlying23 Tryd.underlying3 (by kernel_rfl) h1
  have bd1 : xs1.length ≤ 1048576 := by have hs := small hk; simp only [Rows.uptoBulkAll, List.append_nil] at hs; omega
  clear hA0
  simp only [List.append_nil] at hW'
  have hlt := fun x hx => hW'.lt x hx
  refine (walk a0 len0 cap0 xs0 ex0 lc0 cm0 W in0 wf0 bd0 a1 len1 cap1 xs1 ex1 lc1 cm1 W rfl in1 wf1 bd1 (env hL)).mono fun e W' ⟨he, hg⟩ => ?_
  subst he
  have hback := trodAll_cons_mk (Below.trod laidOut (by kernel_rfl) (of_decide_eq_true (by kernel_rfl)) h0 hg (fun x hx => hlt x (by simp [hx]))) (trodAll_cons_mk (Below.trod laidOut (by kernel_rfl) (of_decide_eq_true (by kernel_rfl)) h1 hg (fun x hx => hlt x (by simp [hx]))) (trodAll_mk0))
  exact ⟨_, rfl, _, _, _, [], _, [], hW', trodAll_cons_mk (shut_bool Tryd.underlying4 _) trodAll_mk0, hback, rfl, hg.frame _, fun h => by cases h⟩

theorem plainList : laidMetH Tryd.prog Rows.fnTextsMixedUptoRow.laid = laidMet Tryd.prog Rows.fnTextsMixedUptoRow.laid := funext fun _ => MakeChecks.laidMetH_plain _ _ _ (by kernel_rfl)
theorem laid_met (os : Os) : laidMetH Tryd.prog Rows.fnTextsMixedUptoRow.laid ((World.laidAll Tryd.prog os Rows.fnTextsMixedUptoRow.laid).forCall (fun _ _ => 0) ⟨#[], #[.slice none 0 0, .slice none 0 0], []⟩).memory := by
  rw [plainList]; exact laidMet_laidAll _ (by kernel_rfl) (by kernel_rfl)
theorem reads (os : Os) {H : Type} (enc : TypeId × Value → H) : ∃ places, DataW.whole enc Tryd.prog ((World.laidAll Tryd.prog os Rows.fnTextsMixedUptoRow.laid).forCall (fun _ _ => 0) ⟨#[], #[.slice none 0 0, .slice none 0 0], []⟩).memory Tryd.f3.params.toList Rows.fnTextsMixedSpec.vars false #[(.slice none 0 0 : Value), (.slice none 0 0 : Value)].toList 8 = some ([.nil, .nil], [], places) :=
  ⟨[], by kernel_rfl⟩

set_option maxRecDepth 100000 in
theorem lifted (os : Os) (started : os.Started) (H : Type) (enc : TypeId × Value → H) (F : Stop.Interp) :
    ReturnsInHanded {} Tryd.checked os 3 .any ((Rows.OpenSpec.upto Rows.fnTextsMixedSpec).preRow enc Tryd.prog Tryd.f3 Rows.fnTextsMixedUptoRow.domain false Rows.fnTextsMixedUptoRow.laid) (((Rows.OpenSpec.upto Rows.fnTextsMixedSpec).at F).post enc Tryd.prog Tryd.f3 false true false false) := by
  obtain ⟨places, hx⟩ := reads os enc
  refine returnsInHanded_of_row (C := Tryd.checked) (s := Rows.OpenSpec.upto Rows.fnTextsMixedSpec) ownKnobs started (by kernel_rfl) Tryd.func3
    (witness_laid #[.slice none 0 0, .slice none 0 0] (World.shaped_of_ZipB (by kernel_rfl) (by kernel_rfl)) (by kernel_rfl)
      (OpenSpec.preRow_of_cond 8 hx (by kernel_rfl) (fun k hk => by cases hk; kernel_rfl) (by kernel_rfl) (laid_met os))) ?_
  intro W base args ds gs before hval hW _ hcond _ hL _ _
  have hL2 : laidMetH Tryd.prog Rows.fnTextsMixedUptoRow.laid W := hL
  rw [plainList] at hL2
  exact contract H enc W base args ds gs before hval hW hL2 (hcond _ rfl)

theorem said : Rows.FnTextsMixedUptoSaid :=
  OpenClaim.holds_of_cond 3 Tryd.f3 rfl rfl rfl rfl rfl rfl rfl ⟨rfl, rfl, rfl, rfl, rfl⟩ rfl rfl rfl rfl rfl (by kernel_rfl) Tryd.func3 (by kernel_rfl)
    (of_decide_eq_true (by kernel_rfl)) (by unfold Func.isWrapper; first | (rw [if_pos (by decide +kernel)]; kernel_rfl) | (rw [if_neg (by decide +kernel)]; exact ⟨rfl, rfl⟩))
    (fun os started H enc _ F => by rw [OpenClaim.pre_eq_preRow]; exact lifted os started H enc F)

theorem plain (f : FuncId) (fn : Func) (hf : Tryd.pinned.checked.prog.funcNamed "loop.example/lib-g01429/laws.FnTextsMixed" = some f) (hfn : Tryd.pinned.checked.prog.funcs[f]? = some fn) :
    true = Tryd.pinned.checked.prog.looks [] ∧ ∀ (j : Nat) t, fn.params[j]? = some t → Tryd.pinned.checked.prog.wantsStandIn t = false := by
  obtain rfl : f = 3 := Option.some.inj ((show Tryd.prog.funcNamed "loop.example/lib-g01429/laws.FnTextsMixed" = some 3 by kernel_rfl).symm.trans hf) |>.symm
  obtain rfl : fn = Tryd.f3 := (Option.some.inj (Tryd.func3.symm.trans hfn)).symm
  refine ⟨by kernel_rfl, fun j t ht => ?_⟩
  rw [Tryd.params3] at ht
  have hm := Array.mem_of_getElem? ht
  simp only [List.mem_toArray, List.mem_cons, List.not_mem_nil, or_false] at hm
  rcases hm with rfl | rfl
  · exact (show Tryd.prog.wantsStandIn 22 = false by kernel_rfl)
  · exact (show Tryd.prog.wantsStandIn 23 = false by kernel_rfl)

/-- THE CARD. -/
theorem card : Rows.FnTextsMixedUptoCardSaid :=
  Claim7.holds_tied_plain_at .later [] _ _ _ _ said (fun _ h => by cases h) (by kernel_rfl) (fun _ h => by cases h) fnTextsMixedUpto_row_tie rfl ⟨rfl, rfl⟩ (by kernel_rfl) rfl plain (by kernel_rfl)
end fnTextsMixed
end Go.Proofs.YthjkpkkkjndjlaaDoor
