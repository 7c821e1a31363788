/- FnJoinDigits returns true for all numbers and bases: two numbers, one behind the other, are the first one times the power of the base, and the second one, or out of range. Conditions: none beyond the card's own. -/
import Derived.Test.YtenepfefpoiddaaDoorFits
namespace Go.Proofs.YtenepfefpoiddaaDoor
open Go.RowKit
namespace fnJoinDigits

def jd (b x y : Nat) : List Nat := digs b x ++ digs b y
theorem jd_len (b x y : Nat) : (jd b x y).length = (digs b x).length + (digs b y).length := by simp [jd]
theorem jd_bd {b : Nat} (hb : 2 ≤ b) (x y : Nat) : ∀ d ∈ jd b x y, d < b := by
  intro d hd
  rcases List.mem_append.1 hd with h | h
  · exact digs_bd hb x d h
  · exact digs_bd hb y d h
theorem jd_ne (b x y : Nat) : jd b x y ≠ [] := fun h => digs_ne b x (List.append_eq_nil_iff.1 h).1
theorem jd_val {b : Nat} (hb : 2 ≤ b) (x y : Nat) : val b (jd b x y) = x * b ^ (digs b y).length + y := by
  rw [jd, val_append, val_digs hb, val_digs hb]
theorem jd_str (b x y : Nat) : str b x ++ str b y = bs ((jd b x y).map dch) := by
  rw [str_bs, str_bs, bs_append]; simp [jd, text]

set_option maxHeartbeats 1000000 in
set_option maxRecDepth 100000 in
theorem walkOf (x y b : Nat) (hx : x < 18446744073709551616) (hy : y < 18446744073709551616) (hb : 2 ≤ b) (hb2 : b ≤ 36) (w : World) (hE : EnvP w) :
    Calls Tryd.prog 6 #[.int .u64 x, .int .u64 y, .int .i64 b] w fun e w' => e = .returned (.bool true) ∧ Below w.heap.size w w' := by
  obtain ⟨ar, ay, hErr⟩ := hE.errs
  have l1 := digs_len hb 63 x (by omega)
  have l0 := digs_pos b x
  have m1 := digs_len hb 63 y (by omega)
  have m0 := digs_pos b y
  have PT := fun w1 hw1 => ParseUint_any b (jd b x y) hb hb2 (jd_bd hb x y) (jd_ne b x y) (by rw [jd_len]; omega) ar ay w1 hw1
  rw [uintOut, jd_val hb] at PT
  have hcc := jd_str b x y
  have sx := str_size b x
  have sy := str_size b y
  obtain ⟨n, hn⟩ : ∃ n, n = (digs b y).length := ⟨_, rfl⟩
  rw [← hn] at PT m1 m0 sy
  clear hn
  have HT := Lib.hid PT
  clear PT
  obtain ⟨t, ht⟩ : ∃ t : Nat, t = 18446744073709551615 / b := ⟨_, rfl⟩
  have hq : 18446744073709551615 / (b : Int) = (t : Int) := by rw [top_quo, ht]
  have HTt := Lib.hid ht
  clear ht
  go_enter Tryd.func6, Tryd.ntmps6
  go_wp2_with (go_at_call 21; refine (based_yes b _ hb hb2).mono ?_; rintro e w' ⟨rfl, rfl⟩)
  refine (FormatUint_any b x _ _ hb hb2 hx hE.nums).mono ?_
  rintro e w1 ⟨rfl, hw1⟩
  have hN1 := hE.nums.on hw1
  go_wp2_with (go_at_call 22; refine (FormatUint_any b y _ _ hb hb2 hy hN1).mono ?_; rintro e w2 ⟨rfl, hw2⟩; refine Hid.out ?_)
  refine Lib.hid ?_
  have hW2 := hw1.trans (hw2.mono hw1.size)
  have hE1 := hErr.on hW2
  go_wp2
  go_loop [9, 10, 25] (fun vw vf vj => ∃ (j want : Nat) (fits : Bool), j ≤ n ∧ vj = .int .i64 j ∧ vw = .int .u64 want ∧ vf = .bool fits ∧ want < 18446744073709551616 ∧ Hid (FitsInv b x j want fits)) (fun _ _ vj => n - (intOf vj).toNat)
  case atStart => exact ⟨0, x, true, by omega, rfl, rfl, rfl, hx, FitsInv.start b x hx⟩
  case round =>
    obtain ⟨j, want, fits, hj, rfl, rfl, rfl, hw, HF⟩ := hrel
    by_cases hlt : j < n
    · obtain ⟨want', e1, hF'⟩ := HF.out.step hb
      have hw' := hF'.lt
      have HF' := Lib.hid hF'
      clear hF'
      rw [← HTt.out] at HF'
      by_cases hgt : t < want
      · have g3 : decide (t < want) = true := by simpa using hgt
        rw [if_pos hgt] at HF'
        go_wp2
        go_round
        case rel => exact ⟨j + 1, want', false, by omega, by go_num, by first | rfl | rw [e1], rfl, hw', HF'⟩
        case measure => simp [intOf]; omega
      · have g3 : decide (t < want) = false := by simpa using hgt
        rw [if_neg hgt] at HF'
        go_wp2
        go_round
        case rel => exact ⟨j + 1, want', fits, by omega, by go_num, by first | rfl | rw [e1], rfl, hw', HF'⟩
        case measure => simp [intOf]; omega
    · obtain rfl : j = n := by omega
      have hF := HF.out
      have hT := HT.out
      have hcs : (str b x).size + (str b y).size ≤ 128 := by omega
      obtain ⟨s, hs⟩ : ∃ s, s = bs ((jd b x y).map dch) := ⟨_, rfl⟩
      rw [← hs] at hT hcc
      clear hs
      generalize (digs b x).length = m at *
      by_cases hfit : x * b ^ j < 18446744073709551616
      · have e3 := hF.eq (by rw [hF.is]; simpa using hfit)
        have e4 : fits = true := by rw [hF.is]; simpa using hfit
        subst e4
        rw [← e3] at hT
        clear hF HF e3 hfit HT hlt hj
        by_cases hov : want + y < 18446744073709551616
        · rw [if_pos hov] at hT
          obtain ⟨z, hz⟩ : ∃ z, z = want + y := ⟨_, rfl⟩
          rw [← hz] at hT hov
          have HT2 := Lib.hid hT
          have e5 : (want : Int) + (y : Int) = (z : Int) := by omega
          have p0 : decide (0 < j) = true := by simp; omega
          have g4 : decide (18446744073709551615 - (y : Int) < (want : Int)) = false := by simp; omega
          clear hT hz
          go_wp2_with (go_at_call 23; refine (HT2.out _ hE1).mono ?_; rintro e w3 ⟨rfl, hw3⟩)
          go_ret
          exact ⟨rfl, hW2.trans (hw3.mono hW2.size)⟩
        · rw [if_neg hov] at hT
          have HT2 := Lib.hid hT
          have g4 : decide (18446744073709551615 - (y : Int) < (want : Int)) = true := by simp; omega
          clear hT
          go_wp2_with (go_at_call 23; refine (HT2.out _ hE1).mono ?_; rintro e w3 ⟨rfl, hw3⟩)
          go_ret
          exact ⟨rfl, hW2.trans (hw3.mono hW2.size)⟩
      · have e4 : fits = false := by rw [hF.is]; simpa using hfit
        subst e4
        rw [if_neg (by omega)] at hT
        have HT2 := Lib.hid hT
        clear hT HT hF HF hfit hlt hj
        by_cases hov : want + y < 18446744073709551616
        · have g4 : decide (18446744073709551615 - (y : Int) < (want : Int)) = false := by simp; omega
          go_wp2_with (go_at_call 23; refine (HT2.out _ hE1).mono ?_; rintro e w3 ⟨rfl, hw3⟩)
          go_ret
          exact ⟨rfl, hW2.trans (hw3.mono hW2.size)⟩
        · have g4 : decide (18446744073709551615 - (y : Int) < (want : Int)) = true := by simp; omega
          go_wp2_with (go_at_call 23; refine (HT2.out _ hE1).mono ?_; rintro e w3 ⟨rfl, hw3⟩)
          go_ret
          exact ⟨rfl, hW2.trans (hw3.mono hW2.size)⟩

set_option maxRecDepth 100000 in
theorem walk (x : Int) (hx : (Lit.int .u64 x).wf = true) (y : Int) (hy : (Lit.int .u64 y).wf = true) (b : Int) (_hb : (Lit.int .i64 b).wf = true) (w : World) (hE : EnvP w) :
    Calls Tryd.prog 6 #[.int .u64 x, .int .u64 y, .int .i64 b] w fun e w' => e = .returned (.bool true) ∧ Below w.heap.size w w' := by
  obtain ⟨u, rfl, hu⟩ := wf_u64 hx
  obtain ⟨v, rfl, hv⟩ := wf_u64 hy
  by_cases h : 2 ≤ b ∧ b ≤ 36
  · obtain ⟨c, rfl⟩ : ∃ c : Nat, b = c := ⟨b.toNat, by omega⟩
    exact walkOf u v c hu hv (by omega) (by omega) w hE
  · go_enter Tryd.func6, Tryd.ntmps6
    go_wp2_with (go_at_call 21; refine (based_no b _ h).mono ?_; rintro e w' ⟨rfl, rfl⟩)
    go_ret
    exact ⟨rfl, Below.refl _ _⟩
end fnJoinDigits
namespace fnJoinDigits
open Go.ChangeShapes Go.WideShapes Go.ChangeAt Go.RowKit
set_option maxRecDepth 100000 in
theorem contract (H : Type) (enc : TypeId × Value → H) (W : World) (base : Nat) (args : Array Value) (ds gs : List (DataW H)) (before : List MemPlace)
    (hval : ∀ (j : Nat) t v, Tryd.f6.params[j]? = some t → args[j]? = some v → Value.okWide Tryd.prog W .any base t v)
    (hW : DataW.Whole enc Tryd.prog Tryd.f6.params.toList Rows.fnJoinDigitsSpec.vars false W args.toList ds gs before) (hL : laidMet Tryd.prog Rows.fnJoinDigitsRow.laid W) :
    Calls Tryd.prog 6 args W fun e W' => ∃ v, e = .returned v ∧ Rows.fnJoinDigitsSpec.post enc Tryd.prog Tryd.f6 false true false false W args v W' := by
  have hW' := hW
  obtain ⟨p, q, hA0, hV, rfl, hfz, hnd⟩ := hW
  have hA : DataW.TrodAll enc Tryd.prog W 0 (fun _ => true) true Tryd.f6.params.toList args.toList ds p := hA0
  rw [Tryd.params6] at hA hval
  obtain ⟨v0, vs0, d0, ds0, p0, q0, hargs, rfl, rfl, h0, r0⟩ := trodAll_cons hA
  obtain ⟨v1, vs1, d1, ds1, p1, q1, rfl, rfl, rfl, h1, r1⟩ := trodAll_cons r0
  obtain ⟨v2, vs2, d2, ds2, p2, q2, rfl, rfl, rfl, h2, r2⟩ := trodAll_cons r1
  obtain ⟨rfl, rfl, rfl⟩ := trodAll_nil r2
  obtain rfl : args = #[v0, v1, v2] := by cases args; simp_all
  obtain ⟨rfl, rfl⟩ := trodVars_none hV
  obtain ⟨x0, rfl, rfl, rfl, w0⟩ := open_int Tryd.underlying31 (hval 0 31 v0 rfl rfl) h0
  obtain ⟨x1, rfl, rfl, rfl, w1⟩ := open_int Tryd.underlying31 (hval 1 31 v1 rfl rfl) h1
  obtain ⟨x2, rfl, rfl, rfl, w2⟩ := open_int Tryd.underlying3 (hval 2 3 v2 rfl rfl) h2
  clear hA0
  simp only [List.append_nil] at hW'
  refine (walk x0 w0 x1 w1 x2 w2 W (env_parse hL)).mono fun e W' ⟨he, hg⟩ => ?_
  subst he
  refine ⟨_, rfl, _, _, _, [], [], [], hW', ?_, ?_, rfl, hg.frame _, fun h => by cases h⟩
  · exact trodAll_cons_mk (shut_bool Tryd.underlying4 _) trodAll_mk0
  · exact trodAll_cons_mk (shut_int Tryd.underlying31 w0) (trodAll_cons_mk (shut_int Tryd.underlying31 w1) (trodAll_cons_mk (shut_int Tryd.underlying3 w2) (trodAll_mk0)))

theorem plainList : laidMetH Tryd.prog Rows.fnJoinDigitsRow.laid = laidMet Tryd.prog Rows.fnJoinDigitsRow.laid := funext fun _ => MakeChecks.laidMetH_plain _ _ _ (by kernel_rfl)
theorem laid_met (os : Os) : laidMetH Tryd.prog Rows.fnJoinDigitsRow.laid ((World.laidAll Tryd.prog os Rows.fnJoinDigitsRow.laid).forCall (fun _ _ => 0) ⟨#[], #[.int .u64 0, .int .u64 0, .int .i64 0], []⟩).memory := by
  rw [plainList]; exact laidMet_laidAll _ (by kernel_rfl) (by kernel_rfl)
theorem reads (os : Os) {H : Type} (enc : TypeId × Value → H) : ∃ places, DataW.whole enc Tryd.prog ((World.laidAll Tryd.prog os Rows.fnJoinDigitsRow.laid).forCall (fun _ _ => 0) ⟨#[], #[.int .u64 0, .int .u64 0, .int .i64 0], []⟩).memory Tryd.f6.params.toList Rows.fnJoinDigitsSpec.vars false #[(.int .u64 0 : Value), (.int .u64 0 : Value), (.int .i64 0 : Value)].toList 8 = some ([.lit (.int .u64 0), .lit (.int .u64 0), .lit (.int .i64 0)], [], places) :=
  ⟨[], by kernel_rfl⟩

set_option maxRecDepth 100000 in
theorem lifted (os : Os) (started : os.Started) (H : Type) (enc : TypeId × Value → H) (F : Stop.Interp) :
    ReturnsInHanded {} Tryd.checked os 6 .any ((OpenSpec.ofChange Rows.fnJoinDigitsSpec).preRow enc Tryd.prog Tryd.f6 Rows.fnJoinDigitsRow.domain false Rows.fnJoinDigitsRow.laid) (((OpenSpec.ofChange Rows.fnJoinDigitsSpec).at F).post enc Tryd.prog Tryd.f6 false true false false) := by
  obtain ⟨places, hx⟩ := reads os enc
  refine returnsInHanded_of_row (C := Tryd.checked) (s := OpenSpec.ofChange Rows.fnJoinDigitsSpec) ownKnobs started (by kernel_rfl) Tryd.func6
    (witness_laid #[.int .u64 0, .int .u64 0, .int .i64 0] (World.shaped_of_ZipB (by kernel_rfl) (by kernel_rfl)) (by kernel_rfl)
      (OpenSpec.preRow_of_cond 8 hx (by kernel_rfl) (fun k hk => by cases hk) (by kernel_rfl) (laid_met os))) ?_
  intro W base args ds gs before hval hW _ hcond _ hL _ _
  have hL2 : laidMetH Tryd.prog Rows.fnJoinDigitsRow.laid W := hL
  rw [plainList] at hL2
  exact contract H enc W base args ds gs before hval hW hL2

theorem said : Rows.FnJoinDigitsSaid :=
  OpenClaim.holds_of_cond 6 Tryd.f6 rfl rfl rfl rfl rfl rfl rfl ⟨rfl, rfl, rfl, rfl, rfl⟩ rfl rfl rfl rfl rfl (by kernel_rfl) Tryd.func6 (by kernel_rfl)
    (of_decide_eq_true (by kernel_rfl)) (by unfold Func.isWrapper; first | (rw [if_pos (by decide +kernel)]; kernel_rfl) | (rw [if_neg (by decide +kernel)]; exact ⟨rfl, rfl⟩))
    (fun os started H enc _ F => by rw [OpenClaim.pre_eq_preRow]; exact lifted os started H enc F)

theorem plain (f : FuncId) (fn : Func) (hf : Tryd.pinned.checked.prog.funcNamed "loop.example/lib-g01429/laws.FnJoinDigits" = some f) (hfn : Tryd.pinned.checked.prog.funcs[f]? = some fn) :
    true = Tryd.pinned.checked.prog.looks [] ∧ ∀ (j : Nat) t, fn.params[j]? = some t → Tryd.pinned.checked.prog.wantsStandIn t = false := by
  obtain rfl : f = 6 := Option.some.inj ((show Tryd.prog.funcNamed "loop.example/lib-g01429/laws.FnJoinDigits" = some 6 by kernel_rfl).symm.trans hf) |>.symm
  obtain rfl : fn = Tryd.f6 := (Option.some.inj (Tryd.func6.symm.trans hfn)).symm
  refine ⟨by kernel_rfl, fun j t ht => ?_⟩
  rw [Tryd.params6] at ht
  have hm := Array.mem_of_getElem? ht
  simp only [List.mem_toArray, List.mem_cons, List.not_mem_nil, or_false] at hm
  rcases hm with rfl | rfl | rfl
  · exact (show Tryd.prog.wantsStandIn 31 = false by kernel_rfl)
  · exact (show Tryd.prog.wantsStandIn 31 = false by kernel_rfl)
  · exact (show Tryd.prog.wantsStandIn 3 = false by kernel_rfl)

/-- THE CARD. -/
theorem card : Rows.FnJoinDigitsCardSaid :=
  Claim7.holds_tied_plain_at .later [] _ _ _ _ said (fun _ h => by cases h) (by kernel_rfl) (fun _ h => by cases h) fnJoinDigits_row_tie rfl ⟨rfl, rfl⟩ (by kernel_rfl) rfl plain (by kernel_rfl)
end fnJoinDigits
end Go.Proofs.YtenepfefpoiddaaDoor
