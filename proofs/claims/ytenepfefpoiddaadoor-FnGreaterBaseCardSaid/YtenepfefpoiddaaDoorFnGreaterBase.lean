/- FnGreaterBase returns true for all numbers and bases: a text of a number that is read in a greater base is greater if it has more than one digit, and the same otherwise, or out of range. Conditions: none beyond the card's own. -/
import Derived.Test.YtenepfefpoiddaaDoorEnvP
namespace Go.Proofs.YtenepfefpoiddaaDoor
open Go.RowKit
namespace fnGreaterBase

theorem val_mono {a b : Nat} (h : a ≤ b) : ∀ (l : List Nat), val a l ≤ val b l
  | [] => Nat.le_refl _
  | d :: r => by
    rw [val_cons, val_cons]
    have h1 := val_mono h r
    have h2 : d * a ^ r.length ≤ d * b ^ r.length := Nat.mul_le_mul_left _ (Nat.pow_le_pow_left h _)
    omega
theorem val_more {a b x : Nat} (ha : 2 ≤ a) (h : a < b) (hl : 2 ≤ (digs a x).length) : x < val b (digs a x) := by
  have hN := norm_digs ha x
  have hv := val_digs ha x
  generalize digs a x = l at *
  match l, hl with
  | d :: e :: r, _ =>
    have hd : d ≠ 0 := fun e0 => hN.2.2 (by simp) (by simp [e0])
    rw [← hv, val_cons, val_cons b d]
    have h1 := val_mono (Nat.le_of_lt h) (e :: r)
    have h2 : a ^ (e :: r).length < b ^ (e :: r).length := Nat.pow_lt_pow_left h (by simp)
    have h3 : d * a ^ (e :: r).length < d * b ^ (e :: r).length := Nat.mul_lt_mul_of_pos_left h2 (by omega)
    omega
theorem val_single {a b x : Nat} (ha : 2 ≤ a) (hl : (digs a x).length = 1) : val b (digs a x) = x := by
  have hv := val_digs ha x
  generalize digs a x = l at *
  match l, hl with
  | [d], _ => rw [val_one] at hv ⊢; exact hv

set_option maxHeartbeats 1000000 in
set_option maxRecDepth 100000 in
theorem walkOf (x a b : Nat) (hx : x < 18446744073709551616) (ha : 2 ≤ a) (hab : a < b) (hb2 : b ≤ 36) (w : World) (hE : EnvP w) :
    Calls Tryd.prog 5 #[.int .u64 x, .int .i64 a, .int .i64 b] w fun e w' => e = .returned (.bool true) ∧ Below w.heap.size w w' := by
  obtain ⟨ar, ay, hErr⟩ := hE.errs
  have l1 := digs_len ha 63 x (by omega)
  have l0 := digs_pos a x
  have bT : ∀ d ∈ digs a x, d < b := fun d hd => Nat.lt_trans (digs_bd ha x d hd) hab
  have PT := fun w1 hw1 => ParseUint_any b _ (by omega) hb2 bT (digs_ne a x) (by omega) ar ay w1 hw1
  have hmore := val_more (x := x) ha hab
  have hone := val_single (b := b) (x := x) ha
  have sz : (str a x).size = (digs a x).length := str_size a x
  have estr : bs ((digs a x).map dch) = str a x := rfl
  rw [estr, uintOut] at PT
  generalize val b (digs a x) = V at *
  generalize (digs a x).length = n at *
  clear bT estr
  have g1 : decide (b ≤ a) = false := by simp; omega
  by_cases hV : V < 18446744073709551616
  · rw [if_pos hV] at PT
    have HT := Lib.hid PT
    clear PT
    by_cases hn : n = 1
    · have hVx : V = x := hone hn
      subst hVx
      subst hn
      clear hmore hone l1 l0
      go_enter Tryd.func5, Tryd.ntmps5
      go_wp2_with (go_at_call 21; refine (based_yes _ _ (by omega) (by omega)).mono ?_; rintro e w' ⟨rfl, rfl⟩)
      refine (FormatUint_any a V _ _ ha (by omega) hx hE.nums).mono ?_
      rintro e w1 ⟨rfl, hw1⟩
      have hE1 := hErr.on hw1
      go_wp2_with (go_at_call 23; refine (HT.out _ hE1).mono ?_; rintro e w2 ⟨rfl, hw2⟩)
      go_ret
      exact ⟨rfl, hw1.trans (hw2.mono hw1.size)⟩
    · have hVx := hmore (by omega)
      have g2 : decide (x < V) = true := by simpa using hVx
      have g3 : decide (1 < (n : Int)) = true := by simp; omega
      have g4 : ((n : Int) == 1) = false := by simp; omega
      clear hmore hone
      go_enter Tryd.func5, Tryd.ntmps5
      go_wp2_with (go_at_call 21; refine (based_yes _ _ (by omega) (by omega)).mono ?_; rintro e w' ⟨rfl, rfl⟩)
      refine (FormatUint_any a x _ _ ha (by omega) hx hE.nums).mono ?_
      rintro e w1 ⟨rfl, hw1⟩
      have hE1 := hErr.on hw1
      go_wp2_with (go_at_call 23; refine (HT.out _ hE1).mono ?_; rintro e w2 ⟨rfl, hw2⟩)
      go_ret
      exact ⟨rfl, hw1.trans (hw2.mono hw1.size)⟩
  · rw [if_neg hV] at PT
    have HT := Lib.hid PT
    clear PT
    have hn : n ≠ 1 := fun h => by have := hone h; omega
    have g3 : decide (1 < (n : Int)) = true := by simp; omega
    clear hmore hone hV hn
    go_enter Tryd.func5, Tryd.ntmps5
    go_wp2_with (go_at_call 21; refine (based_yes _ _ (by omega) (by omega)).mono ?_; rintro e w' ⟨rfl, rfl⟩)
    refine (FormatUint_any a x _ _ ha (by omega) hx hE.nums).mono ?_
    rintro e w1 ⟨rfl, hw1⟩
    have hE1 := hErr.on hw1
    go_wp2_with (go_at_call 23; refine (HT.out _ hE1).mono ?_; rintro e w2 ⟨rfl, hw2⟩)
    go_ret
    exact ⟨rfl, hw1.trans (hw2.mono hw1.size)⟩

set_option maxRecDepth 100000 in
theorem walk (x : Int) (hx : (Lit.int .u64 x).wf = true) (a : Int) (_ha : (Lit.int .i64 a).wf = true) (b : Int) (_hb : (Lit.int .i64 b).wf = true) (w : World) (hE : EnvP w) :
    Calls Tryd.prog 5 #[.int .u64 x, .int .i64 a, .int .i64 b] w fun e w' => e = .returned (.bool true) ∧ Below w.heap.size w w' := by
  obtain ⟨u, rfl, hu⟩ := wf_u64 hx
  by_cases h : 2 ≤ a ∧ a ≤ 36
  · obtain ⟨c, rfl⟩ : ∃ c : Nat, a = c := ⟨a.toNat, by omega⟩
    by_cases h2 : 2 ≤ b ∧ b ≤ 36
    · obtain ⟨d, rfl⟩ : ∃ d : Nat, b = d := ⟨b.toNat, by omega⟩
      by_cases h3 : c < d
      · exact walkOf u c d hu (by omega) h3 (by omega) w hE
      · have g1 : decide (d ≤ c) = true := by simp; omega
        go_enter Tryd.func5, Tryd.ntmps5
        go_wp2_with (go_at_call 21; refine (based_yes _ _ (by omega) (by omega)).mono ?_; rintro e w' ⟨rfl, rfl⟩)
        go_ret
        exact ⟨rfl, Below.refl _ _⟩
    · go_enter Tryd.func5, Tryd.ntmps5
      go_wp2_with (go_at_call 21; refine (based_yes c _ (by omega) (by omega)).mono ?_; rintro e w' ⟨rfl, rfl⟩; refine Hid.out ?_)
      refine Lib.hid ?_
      go_wp2_with (go_at_call 21; refine (based_no b _ h2).mono ?_; rintro e w' ⟨rfl, rfl⟩)
      go_ret
      exact ⟨rfl, Below.refl _ _⟩
  · go_enter Tryd.func5, Tryd.ntmps5
    go_wp2_with (go_at_call 21; refine (based_no a _ h).mono ?_; rintro e w' ⟨rfl, rfl⟩)
    go_ret
    exact ⟨rfl, Below.refl _ _⟩
end fnGreaterBase
namespace fnGreaterBase
open Go.ChangeShapes Go.WideShapes Go.ChangeAt Go.RowKit
set_option maxRecDepth 100000 in
theorem contract (H : Type) (enc : TypeId × Value → H) (W : World) (base : Nat) (args : Array Value) (ds gs : List (DataW H)) (before : List MemPlace)
    (hval : ∀ (j : Nat) t v, Tryd.f5.params[j]? = some t → args[j]? = some v → Value.okWide Tryd.prog W .any base t v)
    (hW : DataW.Whole enc Tryd.prog Tryd.f5.params.toList Rows.fnGreaterBaseSpec.vars false W args.toList ds gs before) (hL : laidMet Tryd.prog Rows.fnGreaterBaseRow.laid W) :
    Calls Tryd.prog 5 args W fun e W' => ∃ v, e = .returned v ∧ Rows.fnGreaterBaseSpec.post enc Tryd.prog Tryd.f5 false true false false W args v W' := by
  have hW' := hW
  obtain ⟨p, q, hA0, hV, rfl, hfz, hnd⟩ := hW
  have hA : DataW.TrodAll enc Tryd.prog W 0 (fun _ => true) true Tryd.f5.params.toList args.toList ds p := hA0
  rw [Tryd.params5] at hA hval
  obtain ⟨v0, vs0, d0, ds0, p0, q0, hargs, rfl, rfl, h0, r0⟩ := trodAll_cons hA
  obtain ⟨v1, vs1, d1, ds1, p1, q1, rfl, rfl, rfl, h1, r1⟩ := trodAll_cons r0
  obtain ⟨v2, vs2, d2, ds2, p2, q2, rfl, rfl, rfl, h2, r2⟩ := trodAll_cons r1
  obtain ⟨rfl, rfl, rfl⟩ := trodAll_nil r2
  obtain rfl : args = #[v0, v1, v2] := by cases args; simp_all
  obtain ⟨rfl, rfl⟩ := trodVars_none hV
  obtain ⟨x0, rfl, rfl, rfl, w0⟩ := open_int Tryd.underlying31 (hval 0 31 v0 rfl rfl) h0
  obtain ⟨x1, rfl, rfl, rfl, w1⟩ := open_int Tryd.underlying3 (hval 1 3 v1 rfl rfl) h1
  obtain ⟨x2, rfl, rfl, rfl, w2⟩ := open_int Tryd.underlying3 (hval 2 3 v2 rfl rfl) h2
  clear hA0
  simp only [List.append_nil] at hW'
  refine (walk x0 w0 x1 w1 x2 w2 W (env_parse hL)).mono fun e W' ⟨he, hg⟩ => ?_
  subst he
  refine ⟨_, rfl, _, _, _, [], [], [], hW', ?_, ?_, rfl, hg.frame _, fun h => by cases h⟩
  · exact trodAll_cons_mk (shut_bool Tryd.underlying4 _) trodAll_mk0
  · exact trodAll_cons_mk (shut_int Tryd.underlying31 w0) (trodAll_cons_mk (shut_int Tryd.underlying3 w1) (trodAll_cons_mk (shut_int Tryd.underlying3 w2) (trodAll_mk0)))

theorem plainList : laidMetH Tryd.prog Rows.fnGreaterBaseRow.laid = laidMet Tryd.prog Rows.fnGreaterBaseRow.laid := funext fun _ => MakeChecks.laidMetH_plain _ _ _ (by kernel_rfl)
theorem laid_met (os : Os) : laidMetH Tryd.prog Rows.fnGreaterBaseRow.laid ((World.laidAll Tryd.prog os Rows.fnGreaterBaseRow.laid).forCall (fun _ _ => 0) ⟨#[], #[.int .u64 0, .int .i64 0, .int .i64 0], []⟩).memory := by
  rw [plainList]; exact laidMet_laidAll _ (by kernel_rfl) (by kernel_rfl)
theorem reads (os : Os) {H : Type} (enc : TypeId × Value → H) : ∃ places, DataW.whole enc Tryd.prog ((World.laidAll Tryd.prog os Rows.fnGreaterBaseRow.laid).forCall (fun _ _ => 0) ⟨#[], #[.int .u64 0, .int .i64 0, .int .i64 0], []⟩).memory Tryd.f5.params.toList Rows.fnGreaterBaseSpec.vars false #[(.int .u64 0 : Value), (.int .i64 0 : Value), (.int .i64 0 : Value)].toList 8 = some ([.lit (.int .u64 0), .lit (.int .i64 0), .lit (.int .i64 0)], [], places) :=
  ⟨[], by kernel_rfl⟩

set_option maxRecDepth 100000 in
theorem lifted (os : Os) (started : os.Started) (H : Type) (enc : TypeId × Value → H) (F : Stop.Interp) :
    ReturnsInHanded {} Tryd.checked os 5 .any ((OpenSpec.ofChange Rows.fnGreaterBaseSpec).preRow enc Tryd.prog Tryd.f5 Rows.fnGreaterBaseRow.domain false Rows.fnGreaterBaseRow.laid) (((OpenSpec.ofChange Rows.fnGreaterBaseSpec).at F).post enc Tryd.prog Tryd.f5 false true false false) := by
  obtain ⟨places, hx⟩ := reads os enc
  refine returnsInHanded_of_row (C := Tryd.checked) (s := OpenSpec.ofChange Rows.fnGreaterBaseSpec) ownKnobs started (by kernel_rfl) Tryd.func5
    (witness_laid #[.int .u64 0, .int .i64 0, .int .i64 0] (World.shaped_of_ZipB (by kernel_rfl) (by kernel_rfl)) (by kernel_rfl)
      (OpenSpec.preRow_of_cond 8 hx (by kernel_rfl) (fun k hk => by cases hk) (by kernel_rfl) (laid_met os))) ?_
  intro W base args ds gs before hval hW _ hcond _ hL _ _
  have hL2 : laidMetH Tryd.prog Rows.fnGreaterBaseRow.laid W := hL
  rw [plainList] at hL2
  exact contract H enc W base args ds gs before hval hW hL2

theorem said : Rows.FnGreaterBaseSaid :=
  OpenClaim.holds_of_cond 5 Tryd.f5 rfl rfl rfl rfl rfl rfl rfl ⟨rfl, rfl, rfl, rfl, rfl⟩ rfl rfl rfl rfl rfl (by kernel_rfl) Tryd.func5 (by kernel_rfl)
    (of_decide_eq_true (by kernel_rfl)) (by unfold Func.isWrapper; first | (rw [if_pos (by decide +kernel)]; kernel_rfl) | (rw [if_neg (by decide +kernel)]; exact ⟨rfl, rfl⟩))
    (fun os started H enc _ F => by rw [OpenClaim.pre_eq_preRow]; exact lifted os started H enc F)

theorem plain (f : FuncId) (fn : Func) (hf : Tryd.pinned.checked.prog.funcNamed "loop.example/lib-g01429/laws.FnGreaterBase" = some f) (hfn : Tryd.pinned.checked.prog.funcs[f]? = some fn) :
    true = Tryd.pinned.checked.prog.looks [] ∧ ∀ (j : Nat) t, fn.params[j]? = some t → Tryd.pinned.checked.prog.wantsStandIn t = false := by
  obtain rfl : f = 5 := Option.some.inj ((show Tryd.prog.funcNamed "loop.example/lib-g01429/laws.FnGreaterBase" = some 5 by kernel_rfl).symm.trans hf) |>.symm
  obtain rfl : fn = Tryd.f5 := (Option.some.inj (Tryd.func5.symm.trans hfn)).symm
  refine ⟨by kernel_rfl, fun j t ht => ?_⟩
  rw [Tryd.params5] at ht
  have hm := Array.mem_of_getElem? ht
  simp only [List.mem_toArray, List.mem_cons, List.not_mem_nil, or_false] at hm
  rcases hm with rfl | rfl | rfl
  · exact (show Tryd.prog.wantsStandIn 31 = false by kernel_rfl)
  · exact (show Tryd.prog.wantsStandIn 3 = false by kernel_rfl)
  · exact (show Tryd.prog.wantsStandIn 3 = false by kernel_rfl)

/-- THE CARD. -/
theorem card : Rows.FnGreaterBaseCardSaid :=
  Claim7.holds_tied_plain_at .later [] _ _ _ _ said (fun _ h => by cases h) (by kernel_rfl) (fun _ h => by cases h) fnGreaterBase_row_tie rfl ⟨rfl, rfl⟩ (by kernel_rfl) rfl plain (by kernel_rfl)
end fnGreaterBase
end Go.Proofs.YtenepfefpoiddaaDoor
