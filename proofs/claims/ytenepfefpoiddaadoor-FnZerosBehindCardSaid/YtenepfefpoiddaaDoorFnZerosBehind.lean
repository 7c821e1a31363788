/- FnZerosBehind returns true for all numbers, bases and counts: zeros behind a number multiply it by the base as often, or it is out of range. Conditions: none beyond the card's own. -/
import Derived.Test.YtenepfefpoiddaaDoorFits
namespace Go.Proofs.YtenepfefpoiddaaDoor
open Go.RowKit
namespace fnZerosBehind

def zb (b x j : Nat) : List Nat := digs b x ++ List.replicate j 0
theorem zb_len (b x j : Nat) : (zb b x j).length = (digs b x).length + j := by simp [zb]
theorem zb_bd {b : Nat} (hb : 2 ≤ b) (x j : Nat) : ∀ d ∈ zb b x j, d < b := by
  intro d hd
  rcases List.mem_append.1 hd with h | h
  · exact digs_bd hb x d h
  · rw [(List.mem_replicate.1 h).2]; omega
theorem zb_ne (b x j : Nat) : zb b x j ≠ [] := fun h => digs_ne b x (List.append_eq_nil_iff.1 h).1
theorem zb_val {b : Nat} (hb : 2 ≤ b) (x j : Nat) : val b (zb b x j) = x * b ^ j := by
  have h := val_zeros b j []
  rw [List.append_nil, val_nil] at h
  rw [zb, val_append, val_digs hb, h, List.length_replicate, Nat.add_zero]
theorem zb_zero (b x : Nat) : str b x = bs ((zb b x 0).map dch) := by simp [zb, str_bs, text]
theorem zb_succ (b x j : Nat) : bs ((zb b x j).map dch) ++ (⟨#[48]⟩ : ByteArray) = bs ((zb b x (j + 1)).map dch) := by
  rw [bs_one, bs_append]
  simp [zb, List.replicate_succ', dch]

set_option maxHeartbeats 1000000 in
set_option maxRecDepth 100000 in
theorem walkOf (x b k : Nat) (hx : x < 18446744073709551616) (hb : 2 ≤ b) (hb2 : b ≤ 36) (hk : k ≤ 100) (w : World) (hE : EnvP w) :
    Calls Tryd.prog 7 #[.int .u64 x, .int .i64 b, .int .i64 k] w fun e w' => e = .returned (.bool true) ∧ Below w.heap.size w w' := by
  obtain ⟨ar, ay, hErr⟩ := hE.errs
  have l1 := digs_len hb 63 x (by omega)
  have l0 := digs_pos b x
  have PT := fun w1 hw1 => ParseUint_any b (zb b x k) hb hb2 (zb_bd hb x k) (zb_ne b x k) (by rw [zb_len]; omega) ar ay w1 hw1
  rw [uintOut, zb_val hb] at PT
  have HT := Lib.hid PT
  clear PT
  have g1 : decide ((k : Int) < 0) = false := by simp
  have g2 : decide (100 < (k : Int)) = false := by simp; omega
  obtain ⟨t, ht⟩ : ∃ t : Nat, t = 18446744073709551615 / b := ⟨_, rfl⟩
  have hq : 18446744073709551615 / (b : Int) = (t : Int) := by rw [top_quo, ht]
  have HTt := Lib.hid ht
  clear ht
  go_enter Tryd.func7, Tryd.ntmps7
  go_wp2_with (go_at_call 21; refine (based_yes b _ hb hb2).mono ?_; rintro e w' ⟨rfl, rfl⟩)
  refine (FormatUint_any b x _ _ hb hb2 hx hE.nums).mono ?_
  rintro e w1 ⟨rfl, hw1⟩
  have hE1 := hErr.on hw1
  go_wp2
  go_loop [7, 8, 9, 28] (fun vt vw vf vj => ∃ (j want : Nat) (fits : Bool), j ≤ k ∧ vj = .int .i64 j ∧ vt = .string (bs ((zb b x j).map dch)) ∧ vw = .int .u64 want ∧ vf = .bool fits ∧ want < 18446744073709551616 ∧ Hid (FitsInv b x j want fits)) (fun _ _ _ vj => k - (intOf vj).toNat)
  case atStart => exact ⟨0, x, true, by omega, rfl, by rw [zb_zero], rfl, rfl, hx, FitsInv.start b x hx⟩
  case round =>
    obtain ⟨j, want, fits, hj, rfl, rfl, rfl, rfl, hw, HF⟩ := hrel
    have hsz : (bs ((zb b x j).map dch)).size ≤ 164 := by rw [bs_size, List.length_map, zb_len]; omega
    by_cases hlt : j < k
    · obtain ⟨want', e1, hF'⟩ := HF.out.step hb
      have hw' := hF'.lt
      have HF' := Lib.hid hF'
      clear hF'
      have hc := zb_succ b x j
      rw [← HTt.out] at HF'
      by_cases hgt : t < want
      · have g3 : decide (t < want) = true := by simpa using hgt
        rw [if_pos hgt] at HF'
        go_wp2
        go_round
        case rel => exact ⟨j + 1, want', false, by omega, by go_num, by first | rfl | rw [hc], by first | rfl | rw [e1], rfl, hw', HF'⟩
        case measure => simp [intOf]; omega
      · have g3 : decide (t < want) = false := by simpa using hgt
        rw [if_neg hgt] at HF'
        go_wp2
        go_round
        case rel => exact ⟨j + 1, want', fits, by omega, by go_num, by first | rfl | rw [hc], by first | rfl | rw [e1], rfl, hw', HF'⟩
        case measure => simp [intOf]; omega
    · obtain rfl : j = k := by omega
      have hsz2 : (bs ((zb b x j).map dch)).size = (digs b x).length + j := by rw [bs_size, List.length_map, zb_len]
      have hF := HF.out
      have hT := HT.out
      generalize bs ((zb b x j).map dch) = s at *
      by_cases hfit : x * b ^ j < 18446744073709551616
      · have e3 := hF.eq (by rw [hF.is]; simpa using hfit)
        have e4 : fits = true := by rw [hF.is]; simpa using hfit
        subst e4
        rw [if_pos hfit, ← e3] at hT
        have HT2 := Lib.hid hT
        clear hT HT hF HF e3 hfit hlt hj hsz
        generalize (digs b x).length = n at *
        have g5 : decide ((j : Int) < (n : Int) + (j : Int)) = true := by simp; omega
        go_wp2_with (go_at_call 23; refine (HT2.out _ hE1).mono ?_; rintro e w2 ⟨rfl, hw2⟩)
        go_ret
        exact ⟨rfl, hw1.trans (hw2.mono hw1.size)⟩
      · have e4 : fits = false := by rw [hF.is]; simpa using hfit
        subst e4
        rw [if_neg hfit] at hT
        have HT2 := Lib.hid hT
        clear hT HT hF HF hfit hlt hj hsz
        go_wp2_with (go_at_call 23; refine (HT2.out _ hE1).mono ?_; rintro e w2 ⟨rfl, hw2⟩)
        go_ret
        exact ⟨rfl, hw1.trans (hw2.mono hw1.size)⟩

set_option maxRecDepth 100000 in
theorem walk (x : Int) (hx : (Lit.int .u64 x).wf = true) (b : Int) (_hb : (Lit.int .i64 b).wf = true) (k : Int) (_hk : (Lit.int .i64 k).wf = true) (w : World) (hE : EnvP w) :
    Calls Tryd.prog 7 #[.int .u64 x, .int .i64 b, .int .i64 k] w fun e w' => e = .returned (.bool true) ∧ Below w.heap.size w w' := by
  obtain ⟨u, rfl, hu⟩ := wf_u64 hx
  by_cases h : 2 ≤ b ∧ b ≤ 36
  · obtain ⟨c, rfl⟩ : ∃ c : Nat, b = c := ⟨b.toNat, by omega⟩
    by_cases h1 : 0 ≤ k
    · by_cases h2 : k ≤ 100
      · obtain ⟨m, rfl⟩ : ∃ m : Nat, k = m := ⟨k.toNat, by omega⟩
        exact walkOf u c m hu (by omega) (by omega) (by omega) w hE
      · have g1 : decide (k < 0) = false := by simp; omega
        have g2 : decide (100 < k) = true := by simp; omega
        go_enter Tryd.func7, Tryd.ntmps7
        go_wp2_with (go_at_call 21; refine (based_yes c _ (by omega) (by omega)).mono ?_; rintro e w' ⟨rfl, rfl⟩)
        go_ret
        exact ⟨rfl, Below.refl _ _⟩
    · have g1 : decide (k < 0) = true := by simp; omega
      go_enter Tryd.func7, Tryd.ntmps7
      go_wp2_with (go_at_call 21; refine (based_yes c _ (by omega) (by omega)).mono ?_; rintro e w' ⟨rfl, rfl⟩)
      go_ret
      exact ⟨rfl, Below.refl _ _⟩
  · go_enter Tryd.func7, Tryd.ntmps7
    go_wp2_with (go_at_call 21; refine (based_no b _ h).mono ?_; rintro e w' ⟨rfl, rfl⟩)
    go_ret
    exact ⟨rfl, Below.refl _ _⟩
end fnZerosBehind
namespace fnZerosBehind
open Go.ChangeShapes Go.WideShapes Go.ChangeAt Go.RowKit
set_option maxRecDepth 100000 in
theorem contract (H : Type) (enc : TypeId × Value → H) (W : World) (base : Nat) (args : Array Value) (ds gs : List (DataW H)) (before : List MemPlace)
    (hval : ∀ (j : Nat) t v, Tryd.f7.params[j]? = some t → args[j]? = some v → Value.okWide Tryd.prog W .any base t v)
    (hW : DataW.Whole enc Tryd.prog Tryd.f7.params.toList Rows.fnZerosBehindSpec.vars false W args.toList ds gs before) (hL : laidMet Tryd.prog Rows.fnZerosBehindRow.laid W) :
    Calls Tryd.prog 7 args W fun e W' => ∃ v, e = .returned v ∧ Rows.fnZerosBehindSpec.post enc Tryd.prog Tryd.f7 false true false false W args v W' := by
  have hW' := hW
  obtain ⟨p, q, hA0, hV, rfl, hfz, hnd⟩ := hW
  have hA : DataW.TrodAll enc Tryd.prog W 0 (fun _ => true) true Tryd.f7.params.toList args.toList ds p := hA0
  rw [Tryd.params7] at hA hval
  obtain ⟨v0, vs0, d0, ds0, p0, q0, hargs, rfl, rfl, h0, r0⟩ := trodAll_cons hA
  obtain ⟨v1, vs1, d1, ds1, p1, q1, rfl, rfl, rfl, h1, r1⟩ := trodAll_cons r0
  obtain ⟨v2, vs2, d2, ds2, p2, q2, rfl, rfl, rfl, h2, r2⟩ := trodAll_cons r1
  obtain ⟨rfl, rfl, rfl⟩ := trodAll_nil r2
  obtain rfl : args = #[v0, v1, v2] := by cases args; simp_all
  obtain ⟨rfl, rfl⟩ := trodVars_none hV
  obtain ⟨x0, rfl, rfl, rfl, w0⟩ := open_int Tryd.underlying31 (hval 0 31 v0 rfl rfl) h0
  obtain ⟨x1, rfl, rfl, rfl, w1⟩ := open_int Tryd.underlying3 (hval 1 3 v1 rfl rfl) h1
  obtain ⟨x2, rfl, rfl, rfl, w2⟩ := open_int Tryd.underlying3 (hval 2 3 v2 rfl rfl) h2
  clear hA0
  simp only [List.append_nil] at hW'
  refine (walk x0 w0 x1 w1 x2 w2 W (env_parse hL)).mono fun e W' ⟨he, hg⟩ => ?_
  subst he
  refine ⟨_, rfl, _, _, _, [], [], [], hW', ?_, ?_, rfl, hg.frame _, fun h => by cases h⟩
  · exact trodAll_cons_mk (shut_bool Tryd.underlying4 _) trodAll_mk0
  · exact trodAll_cons_mk (shut_int Tryd.underlying31 w0) (trodAll_cons_mk (shut_int Tryd.underlying3 w1) (trodAll_cons_mk (shut_int Tryd.underlying3 w2) (trodAll_mk0)))

theorem plainList : laidMetH Tryd.prog Rows.fnZerosBehindRow.laid = laidMet Tryd.prog Rows.fnZerosBehindRow.laid := funext fun _ => MakeChecks.laidMetH_plain _ _ _ (by kernel_rfl)
theorem laid_met (os : Os) : laidMetH Tryd.prog Rows.fnZerosBehindRow.laid ((World.laidAll Tryd.prog os Rows.fnZerosBehindRow.laid).forCall (fun _ _ => 0) ⟨#[], #[.int .u64 0, .int .i64 0, .int .i64 0], []⟩).memory := by
  rw [plainList]; exact laidMet_laidAll _ (by kernel_rfl) (by kernel_rfl)
theorem reads (os : Os) {H : Type} (enc : TypeId × Value → H) : ∃ places, DataW.whole enc Tryd.prog ((World.laidAll Tryd.prog os Rows.fnZerosBehindRow.laid).forCall (fun _ _ => 0) ⟨#[], #[.int .u64 0, .int .i64 0, .int .i64 0], []⟩).memory Tryd.f7.params.toList Rows.fnZerosBehindSpec.vars false #[(.int .u64 0 : Value), (.int .i64 0 : Value), (.int .i64 0 : Value)].toList 8 = some ([.lit (.int .u64 0), .lit (.int .i64 0), .lit (.int .i64 0)], [], places) :=
  ⟨[], by kernel_rfl⟩

set_option maxRecDepth 100000 in
theorem lifted (os : Os) (started : os.Started) (H : Type) (enc : TypeId × Value → H) (F : Stop.Interp) :
    ReturnsInHanded {} Tryd.checked os 7 .any ((OpenSpec.ofChange Rows.fnZerosBehindSpec).preRow enc Tryd.prog Tryd.f7 Rows.fnZerosBehindRow.domain false Rows.fnZerosBehindRow.laid) (((OpenSpec.ofChange Rows.fnZerosBehindSpec).at F).post enc Tryd.prog Tryd.f7 false true false false) := by
  obtain ⟨places, hx⟩ := reads os enc
  refine returnsInHanded_of_row (C := Tryd.checked) (s := OpenSpec.ofChange Rows.fnZerosBehindSpec) ownKnobs started (by kernel_rfl) Tryd.func7
    (witness_laid #[.int .u64 0, .int .i64 0, .int .i64 0] (World.shaped_of_ZipB (by kernel_rfl) (by kernel_rfl)) (by kernel_rfl)
      (OpenSpec.preRow_of_cond 8 hx (by kernel_rfl) (fun k hk => by cases hk) (by kernel_rfl) (laid_met os))) ?_
  intro W base args ds gs before hval hW _ hcond _ hL _ _
  have hL2 : laidMetH Tryd.prog Rows.fnZerosBehindRow.laid W := hL
  rw [plainList] at hL2
  exact contract H enc W base args ds gs before hval hW hL2

theorem said : Rows.FnZerosBehindSaid :=
  OpenClaim.holds_of_cond 7 Tryd.f7 rfl rfl rfl rfl rfl rfl rfl ⟨rfl, rfl, rfl, rfl, rfl⟩ rfl rfl rfl rfl rfl (by kernel_rfl) Tryd.func7 (by kernel_rfl)
    (of_decide_eq_true (by kernel_rfl)) (by unfold Func.isWrapper; first | (rw [if_pos (by decide +kernel)]; kernel_rfl) | (rw [if_neg (by decide +kernel)]; exact ⟨rfl, rfl⟩))
    (fun os started H enc _ F => by rw [OpenClaim.pre_eq_preRow]; exact lifted os started H enc F)

theorem plain (f : FuncId) (fn : Func) (hf : Tryd.pinned.checked.prog.funcNamed "loop.example/lib-g01429/laws.FnZerosBehind" = some f) (hfn : Tryd.pinned.checked.prog.funcs[f]? = some fn) :
    true = Tryd.pinned.checked.prog.looks [] ∧ ∀ (j : Nat) t, fn.params[j]? = some t → Tryd.pinned.checked.prog.wantsStandIn t = false := by
  obtain rfl : f = 7 := Option.some.inj ((show Tryd.prog.funcNamed "loop.example/lib-g01429/laws.FnZerosBehind" = some 7 by kernel_rfl).symm.trans hf) |>.symm
  obtain rfl : fn = Tryd.f7 := (Option.some.inj (Tryd.func7.symm.trans hfn)).symm
  refine ⟨by kernel_rfl, fun j t ht => ?_⟩
  rw [Tryd.params7] at ht
  have hm := Array.mem_of_getElem? ht
  simp only [List.mem_toArray, List.mem_cons, List.not_mem_nil, or_false] at hm
  rcases hm with rfl | rfl | rfl
  · exact (show Tryd.prog.wantsStandIn 31 = false by kernel_rfl)
  · exact (show Tryd.prog.wantsStandIn 3 = false by kernel_rfl)
  · exact (show Tryd.prog.wantsStandIn 3 = false by kernel_rfl)

/-- THE CARD. -/
theorem card : Rows.FnZerosBehindCardSaid :=
  Claim7.holds_tied_plain_at .later [] _ _ _ _ said (fun _ h => by cases h) (by kernel_rfl) (fun _ h => by cases h) fnZerosBehind_row_tie rfl ⟨rfl, rfl⟩ (by kernel_rfl) rfl plain (by kernel_rfl)
end fnZerosBehind
end Go.Proofs.YtenepfefpoiddaaDoor
