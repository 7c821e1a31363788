/- FnOpposite returns true for all numbers and bases: a number and its opposite differ in the minus alone. Conditions: none beyond the card's own. -/
import Derived.Test.YtenepfefpoiddaaDoorPIntS
namespace Go.Proofs.YtenepfefpoiddaaDoor
open Go.RowKit
namespace fnOpposite

set_option maxHeartbeats 1000000 in
set_option maxRecDepth 100000 in
theorem walk_pos (n : Int) (b : Nat) (h0 : 0 ≤ n) (h1 : n ≤ 9223372036854775807) (hb : 2 ≤ b) (hb2 : b ≤ 36) (w : World) (hE : EnvP w) :
    Calls Tryd.prog 11 #[.int .i64 n, .int .i64 b] w fun e w' => e = .returned (.bool true) ∧ Below w.heap.size w w' := by
  have F1 := fun w1 hw1 => FormatInt_any b w.heap.size n w1 hb hb2 (by omega) h1 hw1
  rw [istr_pos h0] at F1
  have F2 := fun w1 hw1 => FormatUint_any b n.natAbs w.heap.size w1 hb hb2 (by omega) hw1
  have hne := not_empty (S := str b n.natAbs) (by rw [str_size]; have := digs_pos b n.natAbs; omega)
  have Z := fun w1 => size_any n w1 (by omega) h1
  generalize str b n.natAbs = D at *
  generalize n.natAbs = u at *
  have hd : decide (0 ≤ n) = true := by simpa using h0
  have HF1 := Lib.hid F1
  have HF2 := Lib.hid F2
  have HZ := Lib.hid Z
  clear F1 F2 Z
  go_enter Tryd.func11, Tryd.ntmps11
  go_wp2_with (go_at_call 21; refine (based_yes b _ hb hb2).mono ?_; rintro e w' ⟨rfl, rfl⟩)
  refine (HF1.out _ hE.nums).mono ?_
  rintro e w1 ⟨rfl, hw1⟩
  have hN1 := hE.nums.on hw1
  go_wp2_with (go_at_call 36; refine (HZ.out _).mono ?_; rintro e w' ⟨rfl, rfl⟩; refine Hid.out ?_)
  refine Lib.hid ?_
  go_wp2_with (go_at_call 22; refine (HF2.out _ hN1).mono ?_; rintro e w2 ⟨rfl, hw2⟩)
  go_ret
  exact ⟨rfl, hw1.trans (hw2.mono hw1.size)⟩

theorem dash_eq (D : ByteArray) : ((bs [45] ++ D).toList == ((⟨#[45]⟩ : ByteArray) ++ D).toList) = true := by
  rw [show (⟨#[45]⟩ : ByteArray) = bs [45] from rfl]; simp

set_option maxHeartbeats 1000000 in
set_option maxRecDepth 100000 in
theorem walk_neg (n : Int) (b : Nat) (h0 : -9223372036854775808 < n) (h1 : n < 0) (hb : 2 ≤ b) (hb2 : b ≤ 36) (w : World) (hE : EnvP w) :
    Calls Tryd.prog 11 #[.int .i64 n, .int .i64 b] w fun e w' => e = .returned (.bool true) ∧ Below w.heap.size w w' := by
  have F1 := fun w1 hw1 => FormatInt_any b w.heap.size n w1 hb hb2 (by omega) (by omega) hw1
  have F3 := fun w1 hw1 => FormatInt_any b w.heap.size (-n) w1 hb hb2 (by omega) (by omega) hw1
  have PI := fun w1 => ParseInt_istr b (-n) hb hb2 (by omega) (by omega) w1
  rw [istr_neg h1] at F1
  rw [istr_pos (by omega), show (-n).natAbs = n.natAbs by omega] at F3 PI
  have F2 := fun w1 hw1 => FormatUint_any b n.natAbs w.heap.size w1 hb hb2 (by omega) hw1
  have hne := not_empty (S := str b n.natAbs) (by rw [str_size]; have := digs_pos b n.natAbs; omega)
  have hsz : (str b n.natAbs).size ≤ 64 := by rw [str_size]; exact digs_len hb 63 n.natAbs (by omega)
  have hq := dash_eq (str b n.natAbs)
  have Z := fun w1 => size_any n w1 (by omega) (by omega)
  generalize str b n.natAbs = D at *
  obtain ⟨u, hu, hu0, hu1⟩ : ∃ u : Nat, n.natAbs = u ∧ 0 < u ∧ u < 9223372036854775808 := ⟨_, rfl, by omega, by omega⟩
  rw [hu] at F2 Z
  clear hu
  obtain ⟨T, hT⟩ : ∃ T, T = bs [45] ++ D := ⟨_, rfl⟩
  rw [← hT] at F1 hq
  clear hT
  have hd : decide (0 ≤ n) = false := by simp; omega
  have hu2 : ((u : Int) == 9223372036854775808) = false := by simp; omega
  have HF1 := Lib.hid F1
  have HF2 := Lib.hid F2
  have HF3 := Lib.hid F3
  have HP := Lib.hid PI
  have HZ := Lib.hid Z
  clear F1 F2 F3 PI Z
  go_enter Tryd.func11, Tryd.ntmps11
  go_wp2_with (go_at_call 21; refine (based_yes b _ hb hb2).mono ?_; rintro e w' ⟨rfl, rfl⟩)
  refine (HF1.out _ hE.nums).mono ?_
  rintro e w1 ⟨rfl, hw1⟩
  have hN1 := hE.nums.on hw1
  go_wp2_with (go_at_call 36; refine (HZ.out _).mono ?_; rintro e w' ⟨rfl, rfl⟩; refine Hid.out ?_)
  refine Lib.hid ?_
  go_wp2_with (go_at_call 22; refine (HF2.out _ hN1).mono ?_; rintro e w2 ⟨rfl, hw2⟩; refine Hid.out ?_)
  refine Lib.hid ?_
  have hB2 := hw1.trans (hw2.mono hw1.size)
  go_wp2_with (go_at_call 25; refine (HP.out _).mono ?_; rintro e w3 ⟨rfl, hw3⟩; refine Hid.out ?_)
  refine Lib.hid ?_
  have hB3 := hB2.trans (hw3.mono hB2.size)
  have hN3 := hE.nums.on hB3
  go_wp2_with (go_at_call 36; refine (HZ.out _).mono ?_; rintro e w' ⟨rfl, rfl⟩; refine Hid.out ?_)
  refine Lib.hid ?_
  go_wp2_with (go_at_call 24; refine (HF3.out _ hN3).mono ?_; rintro e w4 ⟨rfl, hw4⟩)
  go_ret
  exact ⟨rfl, hB3.trans (hw4.mono hB3.size)⟩

set_option maxHeartbeats 1000000 in
set_option maxRecDepth 100000 in
theorem walk_min (n : Int) (b : Nat) (h0 : n = -9223372036854775808) (hb : 2 ≤ b) (hb2 : b ≤ 36) (w : World) (hE : EnvP w) :
    Calls Tryd.prog 11 #[.int .i64 n, .int .i64 b] w fun e w' => e = .returned (.bool true) ∧ Below w.heap.size w w' := by
  obtain ⟨ar, ay, hErr⟩ := hE.errs
  have F1 := fun w1 hw1 => FormatInt_any b w.heap.size n w1 hb hb2 (by omega) (by omega) hw1
  have hl := digs_len hb 63 n.natAbs (by omega)
  have PI := fun w1 hw1 => ParseInt_range0 b 9223372036854775807 (str b n.natAbs) (by rw [str_size]; omega) ar ay w1 hw1 (Lib.hid (iParseInt_top b (digs b n.natAbs) hb hb2 (digs_bd hb _) (digs_ne _ _) (by omega) (by rw [val_digs hb]; omega) (by rw [val_digs hb]; omega) w1))
  rw [istr_neg (by omega)] at F1
  have F2 := fun w1 hw1 => FormatUint_any b n.natAbs w.heap.size w1 hb hb2 (by omega) hw1
  have hne := not_empty (S := str b n.natAbs) (by rw [str_size]; have := digs_pos b n.natAbs; omega)
  have hsz : (str b n.natAbs).size ≤ 64 := by rw [str_size]; exact hl
  have hq := dash_eq (str b n.natAbs)
  have Z := fun w1 => size_any n w1 (by omega) (by omega)
  generalize str b n.natAbs = D at *
  rw [show n.natAbs = 9223372036854775808 by omega] at F2 Z
  obtain ⟨T, hT⟩ : ∃ T, T = bs [45] ++ D := ⟨_, rfl⟩
  rw [← hT] at F1 hq
  clear hT hl
  have hd : decide (0 ≤ n) = false := by simp; omega
  have hn0 : n < 0 := by omega
  have HF1 := Lib.hid F1
  have HF2 := Lib.hid F2
  have HP := Lib.hid PI
  have HZ := Lib.hid Z
  clear F1 F2 PI Z h0
  go_enter Tryd.func11, Tryd.ntmps11
  go_wp2_with (go_at_call 21; refine (based_yes b _ hb hb2).mono ?_; rintro e w' ⟨rfl, rfl⟩)
  refine (HF1.out _ hE.nums).mono ?_
  rintro e w1 ⟨rfl, hw1⟩
  have hN1 := hE.nums.on hw1
  go_wp2_with (go_at_call 36; refine (HZ.out _).mono ?_; rintro e w' ⟨rfl, rfl⟩; refine Hid.out ?_)
  refine Lib.hid ?_
  go_wp2_with (go_at_call 22; refine (HF2.out _ hN1).mono ?_; rintro e w2 ⟨rfl, hw2⟩; refine Hid.out ?_)
  refine Lib.hid ?_
  have hB2 := hw1.trans (hw2.mono hw1.size)
  have hE2 := hErr.on hB2
  go_wp2_with (go_at_call 25; refine (HP.out _ hE2).mono ?_; rintro e w3 ⟨rfl, hw3⟩; refine Hid.out ?_)
  refine Lib.hid ?_
  have hB3 := hB2.trans (hw3.mono hB2.size)
  go_wp2_with (go_at_call 36; refine (HZ.out _).mono ?_; rintro e w' ⟨rfl, rfl⟩)
  go_ret
  exact ⟨rfl, hB3⟩

set_option maxRecDepth 100000 in
theorem walk (x : Int) (hx : (Lit.int .i64 x).wf = true) (b : Int) (_hb : (Lit.int .i64 b).wf = true) (w : World) (hE : EnvP w) :
    Calls Tryd.prog 11 #[.int .i64 x, .int .i64 b] w fun e w' => e = .returned (.bool true) ∧ Below w.heap.size w w' := by
  have hx2 := wf_i64 hx
  by_cases h : 2 ≤ b ∧ b ≤ 36
  · obtain ⟨c, rfl⟩ : ∃ c : Nat, b = c := ⟨b.toNat, by omega⟩
    by_cases h1 : 0 ≤ x
    · exact walk_pos x c h1 hx2.2 (by omega) (by omega) w hE
    · by_cases h2 : x = -9223372036854775808
      · exact walk_min x c h2 (by omega) (by omega) w hE
      · exact walk_neg x c (by omega) (by omega) (by omega) (by omega) w hE
  · go_enter Tryd.func11, Tryd.ntmps11
    go_wp2_with (go_at_call 21; refine (based_no b _ h).mono ?_; rintro e w' ⟨rfl, rfl⟩)
    go_ret
    exact ⟨rfl, Below.refl _ _⟩
end fnOpposite
namespace fnOpposite
open Go.ChangeShapes Go.WideShapes Go.ChangeAt Go.RowKit
set_option maxRecDepth 100000 in
theorem contract (H : Type) (enc : TypeId × Value → H) (W : World) (base : Nat) (args : Array Value) (ds gs : List (DataW H)) (before : List MemPlace)
    (hval : ∀ (j : Nat) t v, Tryd.f11.params[j]? = some t → args[j]? = some v → Value.okWide Tryd.prog W .any base t v)
    (hW : DataW.Whole enc Tryd.prog Tryd.f11.params.toList Rows.fnOppositeSpec.vars false W args.toList ds gs before) (hL : laidMet Tryd.prog Rows.fnOppositeRow.laid W) :
    Calls Tryd.prog 11 args W fun e W' => ∃ v, e = .returned v ∧ Rows.fnOppositeSpec.post enc Tryd.prog Tryd.f11 false true false false W args v W' := by
  have hW' := hW
  obtain ⟨p, q, hA0, hV, rfl, hfz, hnd⟩ := hW
  have hA : DataW.TrodAll enc Tryd.prog W 0 (fun _ => true) true Tryd.f11.params.toList args.toList ds p := hA0
  rw [Tryd.params11] at hA hval
  obtain ⟨v0, vs0, d0, ds0, p0, q0, hargs, rfl, rfl, h0, r0⟩ := trodAll_cons hA
  obtain ⟨v1, vs1, d1, ds1, p1, q1, rfl, rfl, rfl, h1, r1⟩ := trodAll_cons r0
  obtain ⟨rfl, rfl, rfl⟩ := trodAll_nil r1
  obtain rfl : args = #[v0, v1] := by cases args; simp_all
  obtain ⟨rfl, rfl⟩ := trodVars_none hV
  obtain ⟨x0, rfl, rfl, rfl, w0⟩ := open_int Tryd.underlying2 (hval 0 2 v0 rfl rfl) h0
  obtain ⟨x1, rfl, rfl, rfl, w1⟩ := open_int Tryd.underlying3 (hval 1 3 v1 rfl rfl) h1
  clear hA0
  simp only [List.append_nil] at hW'
  refine (walk x0 w0 x1 w1 W (env_parse hL)).mono fun e W' ⟨he, hg⟩ => ?_
  subst he
  refine ⟨_, rfl, _, _, _, [], [], [], hW', ?_, ?_, rfl, hg.frame _, fun h => by cases h⟩
  · exact trodAll_cons_mk (shut_bool Tryd.underlying4 _) trodAll_mk0
  · exact trodAll_cons_mk (shut_int Tryd.underlying2 w0) (trodAll_cons_mk (shut_int Tryd.underlying3 w1) (trodAll_mk0))

theorem plainList : laidMetH Tryd.prog Rows.fnOppositeRow.laid = laidMet Tryd.prog Rows.fnOppositeRow.laid := funext fun _ => MakeChecks.laidMetH_plain _ _ _ (by kernel_rfl)
theorem laid_met (os : Os) : laidMetH Tryd.prog Rows.fnOppositeRow.laid ((World.laidAll Tryd.prog os Rows.fnOppositeRow.laid).forCall (fun _ _ => 0) ⟨#[], #[.int .i64 0, .int .i64 0], []⟩).memory := by
  rw [plainList]; exact laidMet_laidAll _ (by kernel_rfl) (by kernel_rfl)
theorem reads (os : Os) {H : Type} (enc : TypeId × Value → H) : ∃ places, DataW.whole enc Tryd.prog ((World.laidAll Tryd.prog os Rows.fnOppositeRow.laid).forCall (fun _ _ => 0) ⟨#[], #[.int .i64 0, .int .i64 0], []⟩).memory Tryd.f11.params.toList Rows.fnOppositeSpec.vars false #[(.int .i64 0 : Value), (.int .i64 0 : Value)].toList 8 = some ([.lit (.int .i64 0), .lit (.int .i64 0)], [], places) :=
  ⟨[], by kernel_rfl⟩

set_option maxRecDepth 100000 in
theorem lifted (os : Os) (started : os.Started) (H : Type) (enc : TypeId × Value → H) (F : Stop.Interp) :
    ReturnsInHanded {} Tryd.checked os 11 .any ((OpenSpec.ofChange Rows.fnOppositeSpec).preRow enc Tryd.prog Tryd.f11 Rows.fnOppositeRow.domain false Rows.fnOppositeRow.laid) (((OpenSpec.ofChange Rows.fnOppositeSpec).at F).post enc Tryd.prog Tryd.f11 false true false false) := by
  obtain ⟨places, hx⟩ := reads os enc
  refine returnsInHanded_of_row (C := Tryd.checked) (s := OpenSpec.ofChange Rows.fnOppositeSpec) ownKnobs started (by kernel_rfl) Tryd.func11
    (witness_laid #[.int .i64 0, .int .i64 0] (World.shaped_of_ZipB (by kernel_rfl) (by kernel_rfl)) (by kernel_rfl)
      (OpenSpec.preRow_of_cond 8 hx (by kernel_rfl) (fun k hk => by cases hk) (by kernel_rfl) (laid_met os))) ?_
  intro W base args ds gs before hval hW _ hcond _ hL _ _
  have hL2 : laidMetH Tryd.prog Rows.fnOppositeRow.laid W := hL
  rw [plainList] at hL2
  exact contract H enc W base args ds gs before hval hW hL2

theorem said : Rows.FnOppositeSaid :=
  OpenClaim.holds_of_cond 11 Tryd.f11 rfl rfl rfl rfl rfl rfl rfl ⟨rfl, rfl, rfl, rfl, rfl⟩ rfl rfl rfl rfl rfl (by kernel_rfl) Tryd.func11 (by kernel_rfl)
    (of_decide_eq_true (by kernel_rfl)) (by unfold Func.isWrapper; first | (rw [if_pos (by decide +kernel)]; kernel_rfl) | (rw [if_neg (by decide +kernel)]; exact ⟨rfl, rfl⟩))
    (fun os started H enc _ F => by rw [OpenClaim.pre_eq_preRow]; exact lifted os started H enc F)

theorem plain (f : FuncId) (fn : Func) (hf : Tryd.pinned.checked.prog.funcNamed "loop.example/lib-g01429/laws.FnOpposite" = some f) (hfn : Tryd.pinned.checked.prog.funcs[f]? = some fn) :
    true = Tryd.pinned.checked.prog.looks [] ∧ ∀ (j : Nat) t, fn.params[j]? = some t → Tryd.pinned.checked.prog.wantsStandIn t = false := by
  obtain rfl : f = 11 := Option.some.inj ((show Tryd.prog.funcNamed "loop.example/lib-g01429/laws.FnOpposite" = some 11 by kernel_rfl).symm.trans hf) |>.symm
  obtain rfl : fn = Tryd.f11 := (Option.some.inj (Tryd.func11.symm.trans hfn)).symm
  refine ⟨by kernel_rfl, fun j t ht => ?_⟩
  rw [Tryd.params11] at ht
  have hm := Array.mem_of_getElem? ht
  simp only [List.mem_toArray, List.mem_cons, List.not_mem_nil, or_false] at hm
  rcases hm with rfl | rfl
  · exact (show Tryd.prog.wantsStandIn 2 = false by kernel_rfl)
  · exact (show Tryd.prog.wantsStandIn 3 = false by kernel_rfl)

/-- THE CARD. -/
theorem card : Rows.FnOppositeCardSaid :=
  Claim7.holds_tied_plain_at .later [] _ _ _ _ said (fun _ h => by cases h) (by kernel_rfl) (fun _ h => by cases h) fnOpposite_row_tie rfl ⟨rfl, rfl⟩ (by kernel_rfl) rfl plain (by kernel_rfl)
end fnOpposite
end Go.Proofs.YtenepfefpoiddaaDoor
