/- FnCutDigits returns true for all numbers, bases and places: a number whose digits are cut in two is the first part times the power of the base, and the second part. Conditions: none beyond the card's own. -/
import Derived.Test.YtenepfefpoiddaaDoorEnvP
namespace Go.Proofs.YtenepfefpoiddaaDoor
open Go.RowKit
namespace fnCutDigits

theorem cut {b x m : Nat} (hb : 2 ≤ b) : val b ((digs b x).take m) = x / b ^ ((digs b x).length - m) ∧ val b ((digs b x).drop m) = x % b ^ ((digs b x).length - m) := by
  have h1 := val_digs hb x
  rw [← List.take_append_drop m (digs b x), val_append, List.length_drop] at h1
  have h2 := val_lt ((digs b x).drop m) (fun d hd => digs_bd hb x d (List.mem_of_mem_drop hd))
  rw [List.length_drop] at h2
  generalize val b ((digs b x).take m) = A at *
  generalize val b ((digs b x).drop m) = B at *
  have h3 : 0 < b ^ ((digs b x).length - m) := Nat.pow_pos (by omega)
  generalize b ^ ((digs b x).length - m) = p at *
  constructor
  · rw [← h1, Nat.mul_comm, Nat.mul_add_div h3, Nat.div_eq_of_lt h2]; omega
  · rw [← h1, Nat.mul_comm, Nat.mul_add_mod, Nat.mod_eq_of_lt h2]

theorem ext_take (l : List UInt8) (m : Nat) : (bs l).extract 0 m = bs (l.take m) := by
  apply ByteArray.ext
  simp [bs, ByteArray.data_extract]
theorem ext_drop (l : List UInt8) (m : Nat) : (bs l).extract m (bs l).size = bs (l.drop m) := by
  apply ByteArray.ext
  rw [ByteArray.data_extract, bs_size]
  simp only [bs, List.extract_toArray, List.extract]
  rw [List.take_of_length_le (by simp)]

set_option maxHeartbeats 1000000 in
set_option maxRecDepth 100000 in
theorem walkOf (x b k : Nat) (hx : x < 18446744073709551616) (hb : 2 ≤ b) (hb2 : b ≤ 36) (hk : 1 ≤ k) (hkn : k < (digs b x).length) (w : World) (hE : EnvP w) :
    Calls Tryd.prog 4 #[.int .u64 x, .int .i64 b, .int .i64 k] w fun e w' => e = .returned (.bool true) ∧ Below w.heap.size w w' := by
  obtain ⟨ar, ay, hErr⟩ := hE.errs
  have l1 := digs_len hb 63 x (by omega)
  obtain ⟨n, hn⟩ : ∃ n, n = (digs b x).length := ⟨_, rfl⟩
  obtain ⟨m, hm⟩ : ∃ m : Nat, m + k = n := ⟨n - k, by omega⟩
  have hm1 : 1 ≤ m := by omega
  have hcut := cut (x := x) (m := m) hb
  rw [← hn, show n - m = k by omega] at hcut
  obtain ⟨hc1, hc2⟩ := hcut
  have hpow : b ^ k ≤ x := by
    have h1 := digs_ge_pow hb x (by omega)
    have h2 : b ^ k ≤ b ^ ((digs b x).length - 1) := Nat.pow_le_pow_right (by omega) (by omega)
    omega
  have e1 : (str b x).extract 0 m = bs (((digs b x).take m).map dch) := by
    rw [str_bs, text, ext_take, List.map_take]
  have e2 : (str b x).extract m (str b x).size = bs (((digs b x).drop m).map dch) := by
    rw [str_bs, ext_drop, text, List.map_drop]
  have bT : ∀ d ∈ (digs b x).take m, d < b := fun d hd => digs_bd hb x d (List.mem_of_mem_take hd)
  have bD : ∀ d ∈ (digs b x).drop m, d < b := fun d hd => digs_bd hb x d (List.mem_of_mem_drop hd)
  have nT : (digs b x).take m ≠ [] := by intro h; have := congrArg List.length h; rw [List.length_take] at this; simp only [List.length_nil] at this; omega
  have nD : (digs b x).drop m ≠ [] := by intro h; have := congrArg List.length h; rw [List.length_drop] at this; simp only [List.length_nil] at this; omega
  have lT : ((digs b x).take m).length ≤ 281474976710656 := by rw [List.length_take]; omega
  have lD : ((digs b x).drop m).length ≤ 281474976710656 := by rw [List.length_drop]; omega
  obtain ⟨Q, hQ⟩ : ∃ Q, Q = x / b ^ k := ⟨_, rfl⟩
  obtain ⟨R, hR⟩ : ∃ R, R = x % b ^ k := ⟨_, rfl⟩
  have hQ1 : Q < 18446744073709551616 := by rw [hQ]; exact Nat.lt_of_le_of_lt (Nat.div_le_self _ _) hx
  have hR1 : R < 18446744073709551616 := by rw [hR]; exact Nat.lt_of_le_of_lt (Nat.mod_le _ _) hx
  rw [← hQ] at hc1
  rw [← hR] at hc2
  have oT : uintOut b ((digs b x).take m) = .tuple #[.int .u64 (Q : Int), .int .i64 0] := by
    rw [uintOut, hc1, if_pos hQ1]
  have oD : uintOut b ((digs b x).drop m) = .tuple #[.int .u64 (R : Int), .int .i64 0] := by
    rw [uintOut, hc2, if_pos hR1]
  obtain ⟨T, hT⟩ : ∃ T, T = bs (((digs b x).take m).map dch) := ⟨_, rfl⟩
  obtain ⟨D, hD⟩ : ∃ D, D = bs (((digs b x).drop m).map dch) := ⟨_, rfl⟩
  have PT : ∀ w1, Errs ar ay w1 → Calls Tryd.prog 23 #[.string T, .int .i64 b, .int .i64 64] w1 fun e w' => e = .returned (.tuple #[.int .u64 (Q : Int), .int .i64 0]) ∧ Below w1.heap.size w1 w' := by
    intro w1 hw1
    rw [← oT, hT]
    exact ParseUint_any b _ hb hb2 bT nT lT ar ay w1 hw1
  have PD : ∀ w1, Errs ar ay w1 → Calls Tryd.prog 23 #[.string D, .int .i64 b, .int .i64 64] w1 fun e w' => e = .returned (.tuple #[.int .u64 (R : Int), .int .i64 0]) ∧ Below w1.heap.size w1 w' := by
    intro w1 hw1
    rw [← oD, hD]
    exact ParseUint_any b _ hb hb2 bD nD lD ar ay w1 hw1
  rw [← hT] at e1
  rw [← hD] at e2
  clear hT hD
  have HT := Lib.hid PT
  have HD := Lib.hid PD
  have sz : (str b x).size = n := by rw [str_size, hn]
  rw [sz] at e2
  have HP := Lib.hid hpow
  have HQ := Lib.hid hQ
  have HR := Lib.hid hR
  clear PT PD oT oD lT lD nT nD bT bD hc1 hc2 hpow hkn hQ hR
  have hn64 : n ≤ 64 := by omega
  clear hn l1
  have hnk : (n : Int) - (k : Int) = (m : Int) := by omega
  have g1 : decide ((k : Int) < 1) = false := by simp; omega
  have g2 : decide (n ≤ k) = false := by simp; omega
  have hme : ¬ ((m : Int) < 0) := by omega
  have hmn : m ≤ n := by omega
  go_enter Tryd.func4, Tryd.ntmps4
  go_wp2_with (go_at_call 21; refine (based_yes b _ hb hb2).mono ?_; rintro e w' ⟨rfl, rfl⟩)
  refine (FormatUint_any b x _ _ hb hb2 hx hE.nums).mono ?_
  rintro e w1 ⟨rfl, hw1⟩
  have hE1 := hErr.on hw1
  go_wp2_with (go_at_call 23; refine (HT.out _ hE1).mono ?_; rintro e w2 ⟨rfl, hw2⟩; refine Hid.out ?_)
  refine Lib.hid ?_
  have hE2 := hE1.on hw2
  go_wp2_with (go_at_call 23; refine (HD.out _ hE2).mono ?_; rintro e w3 ⟨rfl, hw3⟩; refine Hid.out ?_)
  refine Lib.hid ?_
  have hW := hw1.trans ((hw2.mono hw1.size).trans (hw3.mono (Nat.le_trans hw1.size hw2.size)))
  have HW := Lib.hid hW
  clear HT HD hE1 hE2 hW hw1 hw2 hw3 e1 e2
  go_wp2
  go_loop [12, 53] (fun vp vj => ∃ j p : Nat, j ≤ k ∧ vj = .int .i64 j ∧ vp = .int .u64 p ∧ p < 18446744073709551616 ∧ Hid (p = b ^ j)) (fun _ vj => k - (intOf vj).toNat)
  case atStart => exact ⟨0, 1, by omega, rfl, rfl, by omega, rfl⟩
  case round =>
    obtain ⟨j, p, hj, rfl, rfl, hp, HPj⟩ := hrel
    by_cases hlt : j < k
    · obtain ⟨q, hq, hq1, e1⟩ : ∃ q : Nat, q = b ^ (j + 1) ∧ q < 18446744073709551616 ∧ IntKind.u64.wrap ((p : Int) * (b : Int)) = (q : Int) := by
        have h1 : b ^ (j + 1) ≤ b ^ k := Nat.pow_le_pow_right (by omega) (by omega)
        have h2 := HP.out
        refine ⟨_, rfl, by omega, ?_⟩
        rw [IntKind.wrap_u64, ← Int.natCast_mul, HPj.out, ← Nat.pow_succ]
        generalize b ^ (j + 1) = z at *
        omega
      have HQj := Lib.hid hq
      clear hq
      go_wp2
      go_round
      case rel => exact ⟨j + 1, q, by omega, by go_num, by first | rfl | rw [e1], hq1, HQj⟩
      case measure => simp [intOf]; omega
    · obtain rfl : j = k := by omega
      have hp0 : 1 ≤ p := by rw [HPj.out]; exact Nat.pow_pos (by omega)
      have d1 : (x : Int) / (p : Int) = (Q : Int) := by rw [HQ.out, ← HPj.out, Int.natCast_ediv]
      have d2 : (x : Int) % (p : Int) = (R : Int) := by rw [HR.out, ← HPj.out, Int.natCast_emod]
      clear HP HQ HR HPj hlt hj
      go_wp2
      go_ret
      exact ⟨rfl, HW.out⟩

set_option maxRecDepth 100000 in
theorem walk_out (x : Nat) (b : Nat) (k : Int) (hx : x < 18446744073709551616) (hb : 2 ≤ b) (hb2 : b ≤ 36) (hk : k < 1 ∨ ((digs b x).length : Int) ≤ k) (w : World) (hE : EnvP w) :
    Calls Tryd.prog 4 #[.int .u64 x, .int .i64 b, .int .i64 k] w fun e w' => e = .returned (.bool true) ∧ Below w.heap.size w w' := by
  obtain ⟨n, hn⟩ : ∃ n, n = (digs b x).length := ⟨_, rfl⟩
  have sz : (str b x).size = n := by rw [str_size, hn]
  have hn1 : 1 ≤ n := by rw [hn]; exact digs_pos b x
  rw [← hn] at hk
  clear hn
  by_cases h1 : k < 1
  · have g1 : decide (k < 1) = true := by simpa using h1
    have g3 : decide (0 < n) = true := by simp; omega
    clear h1 hk
    go_enter Tryd.func4, Tryd.ntmps4
    go_wp2_with (go_at_call 21; refine (based_yes b _ hb hb2).mono ?_; rintro e w' ⟨rfl, rfl⟩)
    refine (FormatUint_any b x _ _ hb hb2 hx hE.nums).mono ?_
    rintro e w1 ⟨rfl, hw1⟩
    go_wp2
    go_ret
    exact ⟨rfl, hw1⟩
  · have g1 : decide (k < 1) = false := by simpa using h1
    have g2 : decide ((n : Int) ≤ k) = true := by simp; omega
    have g3 : decide (0 < n) = true := by simp; omega
    clear h1 hk
    go_enter Tryd.func4, Tryd.ntmps4
    go_wp2_with (go_at_call 21; refine (based_yes b _ hb hb2).mono ?_; rintro e w' ⟨rfl, rfl⟩)
    refine (FormatUint_any b x _ _ hb hb2 hx hE.nums).mono ?_
    rintro e w1 ⟨rfl, hw1⟩
    go_wp2
    go_ret
    exact ⟨rfl, hw1⟩

set_option maxRecDepth 100000 in
theorem walk (x : Int) (hx : (Lit.int .u64 x).wf = true) (b : Int) (_hb : (Lit.int .i64 b).wf = true) (k : Int) (hk : (Lit.int .i64 k).wf = true) (w : World) (hE : EnvP w) :
    Calls Tryd.prog 4 #[.int .u64 x, .int .i64 b, .int .i64 k] w fun e w' => e = .returned (.bool true) ∧ Below w.heap.size w w' := by
  obtain ⟨u, rfl, hu⟩ := wf_u64 hx
  by_cases h : 2 ≤ b ∧ b ≤ 36
  · obtain ⟨c, rfl⟩ : ∃ c : Nat, b = c := ⟨b.toNat, by omega⟩
    by_cases h1 : k < 1 ∨ ((digs c u).length : Int) ≤ k
    · exact walk_out u c k hu (by omega) (by omega) h1 w hE
    · obtain ⟨m, rfl⟩ : ∃ m : Nat, k = m := ⟨k.toNat, by omega⟩
      exact walkOf u c m hu (by omega) (by omega) (by omega) (by omega) w hE
  · go_enter Tryd.func4, Tryd.ntmps4
    go_wp2_with (go_at_call 21; refine (based_no b _ h).mono ?_; rintro e w' ⟨rfl, rfl⟩)
    go_ret
    exact ⟨rfl, Below.refl _ _⟩
end fnCutDigits
namespace fnCutDigits
open Go.ChangeShapes Go.WideShapes Go.ChangeAt Go.RowKit
set_option maxRecDepth 100000 in
theorem contract (H : Type) (enc : TypeId × Value → H) (W : World) (base : Nat) (args : Array Value) (ds gs : List (DataW H)) (before : List MemPlace)
    (hval : ∀ (j : Nat) t v, Tryd.f4.params[j]? = some t → args[j]? = some v → Value.okWide Tryd.prog W .any base t v)
    (hW : DataW.Whole enc Tryd.prog Tryd.f4.params.toList Rows.fnCutDigitsSpec.vars false W args.toList ds gs before) (hL : laidMet Tryd.prog Rows.fnCutDigitsRow.laid W) :
    Calls Tryd.prog 4 args W fun e W' => ∃ v, e = .returned v ∧ Rows.fnCutDigitsSpec.post enc Tryd.prog Tryd.f4 false true false false W args v W' := by
  have hW' := hW
  obtain ⟨p, q, hA0, hV, rfl, hfz, hnd⟩ := hW
  have hA : DataW.TrodAll enc Tryd.prog W 0 (fun _ => true) true Tryd.f4.params.toList args.toList ds p := hA0
  rw [Tryd.params4] at hA hval
  obtain ⟨v0, vs0, d0, ds0, p0, q0, hargs, rfl, rfl, h0, r0⟩ := trodAll_cons hA
  obtain ⟨v1, vs1, d1, ds1, p1, q1, rfl, rfl, rfl, h1, r1⟩ := trodAll_cons r0
  obtain ⟨v2, vs2, d2, ds2, p2, q2, rfl, rfl, rfl, h2, r2⟩ := trodAll_cons r1
  obtain ⟨rfl, rfl, rfl⟩ := trodAll_nil r2
  obtain rfl : args = #[v0, v1, v2] := by cases args; simp_all
  obtain ⟨rfl, rfl⟩ := trodVars_none hV
  obtain ⟨x0, rfl, rfl, rfl, w0⟩ := open_int Tryd.underlying31 (hval 0 31 v0 rfl rfl) h0
  obtain ⟨x1, rfl, rfl, rfl, w1⟩ := open_int Tryd.underlying3 (hval 1 3 v1 rfl rfl) h1
  obtain ⟨x2, rfl, rfl, rfl, w2⟩ := open_int Tryd.underlying3 (hval 2 3 v2 rfl rfl) h2
  clear hA0
  simp only [List.append_nil] at hW'
  refine (walk x0 w0 x1 w1 x2 w2 W (env_parse hL)).mono fun e W' ⟨he, hg⟩ => ?_
  subst he
  refine ⟨_, rfl, _, _, _, [], [], [], hW', ?_, ?_, rfl, hg.frame _, fun h => by cases h⟩
  · exact trodAll_cons_mk (shut_bool Tryd.underlying4 _) trodAll_mk0
  · exact trodAll_cons_mk (shut_int Tryd.underlying31 w0) (trodAll_cons_mk (shut_int Tryd.underlying3 w1) (trodAll_cons_mk (shut_int Tryd.underlying3 w2) (trodAll_mk0)))

theorem plainList : laidMetH Tryd.prog Rows.fnCutDigitsRow.laid = laidMet Tryd.prog Rows.fnCutDigitsRow.laid := funext fun _ => MakeChecks.laidMetH_plain _ _ _ (by kernel_rfl)
theorem laid_met (os : Os) : laidMetH Tryd.prog Rows.fnCutDigitsRow.laid ((World.laidAll Tryd.prog os Rows.fnCutDigitsRow.laid).forCall (fun _ _ => 0) ⟨#[], #[.int .u64 0, .int .i64 0, .int .i64 0], []⟩).memory := by
  rw [plainList]; exact laidMet_laidAll _ (by kernel_rfl) (by kernel_rfl)
theorem reads (os : Os) {H : Type} (enc : TypeId × Value → H) : ∃ places, DataW.whole enc Tryd.prog ((World.laidAll Tryd.prog os Rows.fnCutDigitsRow.laid).forCall (fun _ _ => 0) ⟨#[], #[.int .u64 0, .int .i64 0, .int .i64 0], []⟩).memory Tryd.f4.params.toList Rows.fnCutDigitsSpec.vars false #[(.int .u64 0 : Value), (.int .i64 0 : Value), (.int .i64 0 : Value)].toList 8 = some ([.lit (.int .u64 0), .lit (.int .i64 0), .lit (.int .i64 0)], [], places) :=
  ⟨[], by kernel_rfl⟩

set_option maxRecDepth 100000 in
theorem lifted (os : Os) (started : os.Started) (H : Type) (enc : TypeId × Value → H) (F : Stop.Interp) :
    ReturnsInHanded {} Tryd.checked os 4 .any ((OpenSpec.ofChange Rows.fnCutDigitsSpec).preRow enc Tryd.prog Tryd.f4 Rows.fnCutDigitsRow.domain false Rows.fnCutDigitsRow.laid) (((OpenSpec.ofChange Rows.fnCutDigitsSpec).at F).post enc Tryd.prog Tryd.f4 false true false false) := by
  obtain ⟨places, hx⟩ := reads os enc
  refine returnsInHanded_of_row (C := Tryd.checked) (s := OpenSpec.ofChange Rows.fnCutDigitsSpec) ownKnobs started (by kernel_rfl) Tryd.func4
    (witness_laid #[.int .u64 0, .int .i64 0, .int .i64 0] (World.shaped_of_ZipB (by kernel_rfl) (by kernel_rfl)) (by kernel_rfl)
      (OpenSpec.preRow_of_cond 8 hx (by kernel_rfl) (fun k hk => by cases hk) (by kernel_rfl) (laid_met os))) ?_
  intro W base args ds gs before hval hW _ hcond _ hL _ _
  have hL2 : laidMetH Tryd.prog Rows.fnCutDigitsRow.laid W := hL
  rw [plainList] at hL2
  exact contract H enc W base args ds gs before hval hW hL2

theorem said : Rows.FnCutDigitsSaid :=
  OpenClaim.holds_of_cond 4 Tryd.f4 rfl rfl rfl rfl rfl rfl rfl ⟨rfl, rfl, rfl, rfl, rfl⟩ rfl rfl rfl rfl rfl (by kernel_rfl) Tryd.func4 (by kernel_rfl)
    (of_decide_eq_true (by kernel_rfl)) (by unfold Func.isWrapper; first | (rw [if_pos (by decide +kernel)]; kernel_rfl) | (rw [if_neg (by decide +kernel)]; exact ⟨rfl, rfl⟩))
    (fun os started H enc _ F => by rw [OpenClaim.pre_eq_preRow]; exact lifted os started H enc F)

theorem plain (f : FuncId) (fn : Func) (hf : Tryd.pinned.checked.prog.funcNamed "loop.example/lib-g01429/laws.FnCutDigits" = some f) (hfn : Tryd.pinned.checked.prog.funcs[f]? = some fn) :
    true = Tryd.pinned.checked.prog.looks [] ∧ ∀ (j : Nat) t, fn.params[j]? = some t → Tryd.pinned.checked.prog.wantsStandIn t = false := by
  obtain rfl : f = 4 := Option.some.inj ((show Tryd.prog.funcNamed "loop.example/lib-g01429/laws.FnCutDigits" = some 4 by kernel_rfl).symm.trans hf) |>.symm
  obtain rfl : fn = Tryd.f4 := (Option.some.inj (Tryd.func4.symm.trans hfn)).symm
  refine ⟨by kernel_rfl, fun j t ht => ?_⟩
  rw [Tryd.params4] at ht
  have hm := Array.mem_of_getElem? ht
  simp only [List.mem_toArray, List.mem_cons, List.not_mem_nil, or_false] at hm
  rcases hm with rfl | rfl | rfl
  · exact (show Tryd.prog.wantsStandIn 31 = false by kernel_rfl)
  · exact (show Tryd.prog.wantsStandIn 3 = false by kernel_rfl)
  · exact (show Tryd.prog.wantsStandIn 3 = false by kernel_rfl)

/-- THE CARD. -/
theorem card : Rows.FnCutDigitsCardSaid :=
  Claim7.holds_tied_plain_at .later [] _ _ _ _ said (fun _ h => by cases h) (by kernel_rfl) (fun _ h => by cases h) fnCutDigits_row_tie rfl ⟨rfl, rfl⟩ (by kernel_rfl) rfl plain (by kernel_rfl)
end fnCutDigits
end Go.Proofs.YtenepfefpoiddaaDoor
