/- FnDigits returns true for every number and every base: a number has as many digits as the loop counts. -/
import Derived.Test.YtjcejkenjmkinaaDoorEnv
namespace Go.Proofs.YtjcejkenjmkinaaDoor
open Go.RowKit
namespace fnDigits
set_option maxHeartbeats 1000000 in
theorem walkOf (x b : Nat) (hx : x < 18446744073709551616) (hb : 2 ≤ b) (hb2 : b ≤ 36) (w : World) (hE : Env w.heap.size w) :
    Calls Tryd.prog 4 #[.int .u64 x, .int .i64 b] w fun e w' => e = .returned (.bool true) ∧ Below w.heap.size w w' := by
  have hl64 : ∀ y, y ≤ x → (digs b y).length ≤ 64 := fun y hy => digs_len hb 63 y (by omega)
  have HL := Lib.hid hl64
  clear hl64
  go_enter Tryd.func4, Tryd.ntmps4
  go_wp2_with (go_at_call 10; refine (based_yes b _ hb hb2).mono ?_; rintro e w' ⟨rfl, rfl⟩)
  go_loop [5, 6] (fun n y => ∃ k v : Nat, n = .int .i64 k ∧ y = .int .u64 v ∧ v ≤ x ∧ k ≤ 64 ∧ Hid (k + (digs b v).length = (digs b x).length + 1)) (fun _ y => (intOf y).toNat)
  case atStart => exact ⟨1, x, rfl, rfl, Nat.le_refl _, by omega, Nat.add_comm _ _⟩
  case round =>
    obtain ⟨k, v, rfl, rfl, hv, hk, HI⟩ := hrel
    by_cases hlt : b ≤ v
    · obtain ⟨q, p, r, hq, hr', hrb, hqv, hpv, e1, e2, e3⟩ := quo_facts v b hb (by omega)
      have HQ := Lib.hid hq
      clear hq hr' e2 e3
      go_wp2
      go_round
      case rel =>
        have h1 := HI.out
        rw [digs_ge hb hlt, ← HQ.out] at h1
        have h2 := HL.out x (Nat.le_refl _)
        have h3 := digs_pos b q
        simp only [List.length_append, List.length_cons, List.length_nil] at h1
        exact ⟨k + 1, q, by go_num, rfl, by omega, by omega, by show _ = _; omega⟩
      case measure =>
        simp [intOf]
        rw [HQ.out]
        exact Nat.div_lt_self (by omega) (by omega)
    · have hk2 : k = (digs b x).length := by
        have h1 := HI.out
        rw [digs_lt (by omega)] at h1
        simp at h1
        omega
      have hs := str_size b x
      have HK := Lib.hid hk2
      have HS := Lib.hid hs
      clear hk2 hs
      go_wp2_with (go_at_call 11; refine (FormatUint_any b x _ _ hb hb2 hx hE).mono ?_; rintro e w' ⟨rfl, hw⟩)
      go_ret
      refine ⟨?_, hw⟩
      show Ending.returned (Value.bool _) = _
      rw [HS.out, HK.out]
      simp

theorem walk (x : Int) (wx : (Lit.int .u64 x).wf = true) (b : Int) (wb : (Lit.int .i64 b).wf = true) (w : World) (hE : Env w.heap.size w) :
    Calls Tryd.prog 4 #[.int .u64 x, .int .i64 b] w fun e w' => e = .returned (.bool true) ∧ Below w.heap.size w w' := by
  obtain ⟨x, rfl, hx⟩ := wf_u64 wx
  by_cases hb : 2 ≤ b ∧ b ≤ 36
  · obtain ⟨b, rfl⟩ : ∃ n : Nat, b = n := ⟨b.toNat, by omega⟩
    exact walkOf x b hx (by omega) (by omega) w hE
  · go_enter Tryd.func4, Tryd.ntmps4
    go_wp2_with (go_at_call 10; refine (based_no b _ hb).mono ?_; rintro e w' ⟨rfl, rfl⟩)
    go_ret
    exact ⟨rfl, Below.refl _ _⟩
end fnDigits
namespace fnDigits
open Go.ChangeShapes Go.WideShapes Go.ChangeAt Go.RowKit
set_option maxRecDepth 100000 in
theorem contract (H : Type) (enc : TypeId × Value → H) (W : World) (base : Nat) (args : Array Value) (ds gs : List (DataW H)) (before : List MemPlace)
    (hval : ∀ (j : Nat) t v, Tryd.f4.params[j]? = some t → args[j]? = some v → Value.okWide Tryd.prog W .any base t v)
    (hW : DataW.Whole enc Tryd.prog Tryd.f4.params.toList Rows.fnDigitsSpec.vars false W args.toList ds gs before) (hL : laidMetH Tryd.prog Rows.fnDigitsRow.laid W) :
    Calls Tryd.prog 4 args W fun e W' => ∃ v, e = .returned v ∧ Rows.fnDigitsSpec.post enc Tryd.prog Tryd.f4 false true false false W args v W' := by
  have hW' := hW
  obtain ⟨p, q, hA0, hV, rfl, hfz, hnd⟩ := hW
  have hA : DataW.TrodAll enc Tryd.prog W 0 (fun _ => true) true Tryd.f4.params.toList args.toList ds p := hA0
  rw [Tryd.params4] at hA hval
  obtain ⟨v0, vs0, d0, ds0, p0, q0, hargs, rfl, rfl, h0, r0⟩ := trodAll_cons hA
  obtain ⟨v1, vs1, d1, ds1, p1, q1, rfl, rfl, rfl, h1, r1⟩ := trodAll_cons r0
  obtain ⟨rfl, rfl, rfl⟩ := trodAll_nil r1
  obtain rfl : args = #[v0, v1] := by cases args; simp_all
  obtain ⟨rfl, rfl⟩ := trodVars_none hV
  obtain ⟨x0, rfl, rfl, rfl, w0⟩ := open_int Tryd.underlying22 (hval 0 22 v0 rfl rfl) h0
  obtain ⟨x1, rfl, rfl, rfl, w1⟩ := open_int Tryd.underlying3 (hval 1 3 v1 rfl rfl) h1
  clear hA0
  simp only [List.append_nil] at hW'
  refine (walk x0 w0 x1 w1 W (env_of hL)).mono fun e W' ⟨he, hg⟩ => ?_
  subst he
  refine ⟨_, rfl, _, _, _, [], [], [], hW', ?_, ?_, rfl, hg.frame _, fun h => by cases h⟩
  · exact trodAll_cons_mk (shut_bool Tryd.underlying4 _) trodAll_mk0
  · exact trodAll_cons_mk (shut_int Tryd.underlying22 w0) (trodAll_cons_mk (shut_int Tryd.underlying3 w1) (trodAll_mk0))

theorem laid_met (os : Os) : laidMet Tryd.prog Rows.fnDigitsRow.laid ((laidWorld os).forCall (fun _ _ => 0) ⟨#[], #[.int .u64 0, .int .i64 0], []⟩).memory :=
  laidMet_of_run' 8 (by kernel_rfl) (by kernel_rfl)
theorem reads (os : Os) {H : Type} (enc : TypeId × Value → H) : ∃ places, DataW.whole enc Tryd.prog ((laidWorld os).forCall (fun _ _ => 0) ⟨#[], #[.int .u64 0, .int .i64 0], []⟩).memory Tryd.f4.params.toList Rows.fnDigitsSpec.vars false #[(.int .u64 0 : Value), (.int .i64 0 : Value)].toList 8 = some ([.lit (.int .u64 0), .lit (.int .i64 0)], [], places) :=
  ⟨[], by kernel_rfl⟩

set_option maxRecDepth 100000 in
theorem lifted (os : Os) (started : os.Started) (H : Type) (enc : TypeId × Value → H) (F : Stop.Interp) :
    ReturnsInHanded {} Tryd.checked os 4 .any ((OpenSpec.ofChange Rows.fnDigitsSpec).preRow enc Tryd.prog Tryd.f4 Rows.fnDigitsRow.domain false Rows.fnDigitsRow.laid) (((OpenSpec.ofChange Rows.fnDigitsSpec).at F).post enc Tryd.prog Tryd.f4 false true false false) := by
  obtain ⟨places, hx⟩ := reads os enc
  refine returnsInHanded_of_row (C := Tryd.checked) (s := OpenSpec.ofChange Rows.fnDigitsSpec) ownKnobs started (by kernel_rfl) Tryd.func4
    (witness_row_at (enc := enc) (C := Tryd.checked) false (laidWorld os) #[.int .u64 0, .int .i64 0] rfl (by kernel_rfl) (by kernel_rfl) (by kernel_rfl)
      (OpenSpec.preRow_of_cond 8 hx (by kernel_rfl) (fun k hk => by cases hk) (by kernel_rfl) (laid_met os))) ?_
  intro W base args ds gs before hval hW _ _ _ hL _ _
  exact contract H enc W base args ds gs before hval hW hL

theorem said : Rows.FnDigitsSaid :=
  OpenClaim.holds_of_cond 4 Tryd.f4 rfl rfl rfl rfl rfl rfl rfl ⟨rfl, rfl, rfl, rfl, rfl⟩ rfl rfl rfl rfl rfl (by kernel_rfl) Tryd.func4 (by kernel_rfl)
    (of_decide_eq_true (by kernel_rfl)) (by unfold Func.isWrapper; first | (rw [if_pos (by decide +kernel)]; kernel_rfl) | (rw [if_neg (by decide +kernel)]; exact ⟨rfl, rfl⟩))
    (fun os started H enc _ F => by rw [OpenClaim.pre_eq_preRow]; exact lifted os started H enc F)

theorem plain (f : FuncId) (fn : Func) (hf : Tryd.pinned.checked.prog.funcNamed "loop.example/lib-g01429/laws.FnDigits" = some f) (hfn : Tryd.pinned.checked.prog.funcs[f]? = some fn) :
    false = Tryd.pinned.checked.prog.looks [] ∧ ∀ (j : Nat) t, fn.params[j]? = some t → Tryd.pinned.checked.prog.wantsStandIn t = false := by
  obtain rfl : f = 4 := Option.some.inj ((show Tryd.prog.funcNamed "loop.example/lib-g01429/laws.FnDigits" = some 4 by kernel_rfl).symm.trans hf) |>.symm
  obtain rfl : fn = Tryd.f4 := (Option.some.inj (Tryd.func4.symm.trans hfn)).symm
  refine ⟨by kernel_rfl, fun j t ht => ?_⟩
  rw [Tryd.params4] at ht
  have hm := Array.mem_of_getElem? ht
  simp only [List.mem_toArray, List.mem_cons, List.not_mem_nil, or_false] at hm
  rcases hm with rfl | rfl
  · exact (show Tryd.prog.wantsStandIn 22 = false by kernel_rfl)
  · exact (show Tryd.prog.wantsStandIn 3 = false by kernel_rfl)

/-- THE CARD. -/
theorem card : Rows.FnDigitsCardSaid :=
  Claim7.holds_tied_plain_at .later [] _ _ _ _ said (fun _ h => by cases h) (by kernel_rfl) (fun _ h => by cases h) fnDigits_row_tie rfl ⟨rfl, rfl⟩ (by kernel_rfl) rfl plain (by kernel_rfl)
end fnDigits
end Go.Proofs.YtjcejkenjmkinaaDoor
