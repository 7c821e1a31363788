/- FnTimes returns true for all numbers, digits and bases: the digits of a number times one digit are those that one finds by multiplying digits from the right and carrying. Conditions: none beyond the card's own. -/
import Derived.Test.YtjcejkenjmkinaaDoorText
namespace Go.Proofs.YtjcejkenjmkinaaDoor
open Go.RowKit
namespace fnTimes

/-- What holds when the digits from place t on have been multiplied by m: R is what is written, c is carried. -/
structure Inv (b m : Nat) (A : List Nat) (t : Nat) (R : List Nat) (c : Nat) : Prop where
  len : R.length + t = A.length
  bd : ∀ d ∈ R, d < b
  c1 : c < m
  eq : val b R + c * b ^ R.length = m * val b (A.drop t)

theorem Inv.start (b m : Nat) (hm : 1 ≤ m) (A : List Nat) : Inv b m A A.length [] 0 :=
  ⟨by simp, by simp, by omega, by rw [List.drop_length]; simp [val]⟩

theorem Inv.step {b m : Nat} {A : List Nat} {t : Nat} {R : List Nat} {c : Nat} (hb : 2 ≤ b) (h : Inv b m A (t + 1) R c) (hA : t < A.length)
    (ha : A[t] < b) : Inv b m A t ((A[t] * m + c) % b :: R) ((A[t] * m + c) / b) := by
  obtain ⟨h1, h2, h3, h4⟩ := h
  refine ⟨by simp; omega, ?_, ?_, ?_⟩
  · intro d hd
    rcases List.mem_cons.1 hd with rfl | hd
    · exact Nat.mod_lt _ (by omega)
    · exact h2 d hd
  · refine (Nat.div_lt_iff_lt_mul (by omega)).2 ?_
    have : (A[t] + 1) * m ≤ b * m := Nat.mul_le_mul_right _ ha
    rw [Nat.add_mul, Nat.one_mul, Nat.mul_comm b m] at this
    omega
  · have e1 : (A.drop (t + 1)).length = R.length := by simp; omega
    rw [List.drop_eq_getElem_cons hA, val_cons, val_cons, List.length_cons, e1, Nat.pow_succ]
    have h5 := Nat.div_add_mod (A[t] * m + c) b
    generalize (A[t] * m + c) / b = q at *
    generalize (A[t] * m + c) % b = r at *
    have h6 : r * b ^ R.length + q * (b ^ R.length * b) = (A[t] * m + c) * b ^ R.length := by
      rw [← h5, Nat.add_mul, Nat.mul_comm (b ^ R.length) b, ← Nat.mul_assoc, Nat.mul_comm q b]
      omega
    rw [Nat.add_mul] at h6
    have h7 : m * (A[t] * b ^ R.length + val b (A.drop (t + 1))) = A[t] * m * b ^ R.length + m * val b (A.drop (t + 1)) := by
      rw [Nat.mul_add, ← Nat.mul_assoc, Nat.mul_comm m A[t]]
    omega

theorem Inv.fin {b m x : Nat} (hb : 2 ≤ b) (hm : m < b) (hm1 : 1 ≤ m) {R : List Nat} {c : Nat} (h : Inv b m (digs b x) 0 R c) :
    digs b (x * m) = if c = 0 then R else c :: R := by
  obtain ⟨h1, h2, h3, h4⟩ := h
  rw [List.drop_zero, val_digs hb, Nat.mul_comm m x] at h4
  have p1 := digs_pos b x
  split
  · rename_i hc
    subst hc
    refine digs_of hb (norm_of_ge (fun e => by subst e; simp at h1; omega) h2 (fun hr => ?_)) (by omega)
    have h5 : val b R = x * m := by omega
    rw [h5]
    have := digs_ge_pow hb x (by omega)
    rw [show R.length - 1 = (digs b x).length - 1 by omega]
    have h6 : x * 1 ≤ x * m := Nat.mul_le_mul_left _ hm1
    omega
  · rename_i hc
    refine digs_of hb ⟨by simp, fun d hd => ?_, fun _ => by simp; omega⟩ (by rw [val_cons]; omega)
    rcases List.mem_cons.1 hd with rfl | hd
    · omega
    · exact h2 d hd

theorem str_digit {b d : Nat} (h : d < b) : str b d = bs [dch d] := by rw [str_bs, text, digs_lt h]; rfl
theorem str_eq {b u : Nat} {l : List Nat} (h : digs b u = l) : ((str b u).toList == (bs (l.map dch)).toList) = true := by
  rw [str_bs, bs_toList, bs_toList, text, h]; simp
theorem str_bs_eq {b u c : Nat} {l : List Nat} (h : digs b u = c :: l) : ((str b u).toList == (bs [dch c] ++ bs (l.map dch)).toList) = true := by
  rw [bs_append, str_bs, bs_toList, bs_toList, text, h]
  simp

theorem step_facts (a m c b : Nat) (hb : 2 ≤ b) (hb2 : b ≤ 36) (ha : a < b) (hm : m < b) (hc : c < m) : ∃ p n q r : Nat, p ≤ 1296 ∧ n ≤ 1400 ∧ n = a * m + c ∧ q = n / b ∧ r = n % b ∧ r < b ∧ q ≤ 1400 ∧ wrap64 ((a : Int) * (m : Int)) = (p : Int) ∧ (p : Int) + (c : Int) = (n : Int) ∧
    (n : Int) / (b : Int) = (q : Int) ∧ (n : Int) % (b : Int) = (r : Int) := by
  have h0 : a * m ≤ 36 * 36 := Nat.mul_le_mul (by omega) (by omega)
  refine ⟨a * m, a * m + c, (a * m + c) / b, (a * m + c) % b, by omega, by omega, rfl, rfl, rfl, Nat.mod_lt _ (by omega), ?_, ?_, by omega, by rw [Int.natCast_ediv], by rw [Int.natCast_emod]⟩
  · have := Nat.div_le_self (a * m + c) b; omega
  · rw [← Int.natCast_mul, IntWalk.wrap64_in]
    omega

theorem top_facts (x m : Nat) (hm : 1 ≤ m) : ∃ t : Nat, 18446744073709551615 / (m : Int) = (t : Int) ∧ (x ≤ t ↔ x * m ≤ 18446744073709551615) := by
  refine ⟨18446744073709551615 / m, ?_, Nat.le_div_iff_mul_le (by omega)⟩
  rw [Int.natCast_ediv]; rfl

set_option maxHeartbeats 4000000 in
set_option maxRecDepth 100000 in
theorem walkOf (x m b : Nat) (hx : x < 18446744073709551616) (hm1 : 1 ≤ m) (hm : m < b) (hxm : x * m ≤ 18446744073709551615) (hb : 2 ≤ b) (hb2 : b ≤ 36) (w : World) (hE : Env w.heap.size w) :
    Calls Tryd.prog 9 #[.int .u64 x, .int .i64 m, .int .i64 b] w fun e w' => e = .returned (.bool true) ∧ Below w.heap.size w w' := by
  have l1 := digs_len hb 63 x (by omega)
  have l0 := digs_pos b x
  obtain ⟨t, ht, hle⟩ := top_facts x m hm1
  have hxt : x ≤ t := hle.2 hxm
  obtain ⟨Y, hY, hYw⟩ : ∃ Y : Nat, Y = x * m ∧ IntKind.u64.wrap ((x : Int) * (m : Int)) = (Y : Int) := ⟨x * m, rfl, by rw [IntKind.wrap_u64, ← Int.natCast_mul]; omega⟩
  have HY := Lib.hid hY
  have HXM := Lib.hid hxm
  have bA := digs_bd hb x
  have gA := str_get b x
  have BA := Lib.hid bA
  have GA := Lib.hid gA
  have sA := str_size b x
  have hemp := str_ne b x
  have hemp2 : (!(str b x).toList.isEmpty) = true := by rw [hemp]; rfl
  have fin := fun R c => Inv.fin (x := x) hb hm hm1 (R := R) (c := c)
  have FIN := Lib.hid fin
  clear hY hle hxm bA gA fin
  have g1 : decide ((m : Int) < 1) = false := by simp; omega
  have g2 : decide (b ≤ m) = false := by simp; omega
  have g3 : decide (t < x) = false := by simp; omega
  go_enter Tryd.func9, Tryd.ntmps9
  go_wp2_with (go_at_call 10; refine (based_yes b _ hb hb2).mono ?_; rintro e w' ⟨rfl, rfl⟩)
  refine (FormatUint_any b x _ _ hb hb2 hx hE).mono ?_
  rintro e w1 ⟨rfl, hw1⟩
  clear g1 g2 g3
  go_wp2
  go_loopw [8, 9, 10, 11] (fun out vc vi _ wr => ∃ (t c : Nat) (R : List Nat), vi = .int .i64 ((t : Int) - 1) ∧ t ≤ (digs b x).length ∧ vc = .int .i64 c ∧ c < m ∧ out = .string (bs (R.map dch)) ∧ Hid (Inv b m (digs b x) t R c) ∧ Below w.heap.size w wr) (fun _ _ vi _ _ => (intOf vi + 1).toNat)
  case atStart => exact ⟨_, 0, [], by go_num, Nat.le_refl _, rfl, by omega, rfl, Inv.start b m hm1 _, hw1⟩
  case round =>
    obtain ⟨t, c, R, rfl, ht', rfl, hc, rfl, HI, hBr⟩ := hrel
    by_cases ht0 : 1 ≤ t
    · obtain ⟨t, rfl⟩ : ∃ t', t = t' + 1 := ⟨t - 1, by omega⟩
      have ba := BA.out _ (List.getElem_mem (show t < (digs b x).length by omega))
      have iA : t < (str b x).size := by omega
      have da : dval ((str b x)[t]'iA) = ((digs b x)[t]'(by omega) : Int) := by rw [GA.out t iA, dval_dch (by omega)]
      have HS := Lib.hid (HI.out.step hb (by omega) ba)
      generalize (digs b x)[t]'(by omega) = a at da ba HS
      obtain ⟨p, n, q, r, hp1, hn1, hn, hq, hr, hrb, hq1, f1, f2, f3, f4⟩ := step_facts a m c b hb hb2 ba hm hc
      rw [← hn, ← hq, ← hr] at HS
      have hqm := HS.out.c1
      have hR := str_digit hrb
      clear hn hq hr
      have z1 : (bs [dch r]).size ≤ 1 := by rw [bs_size]; simp
      have z2 : (bs (R.map dch)).size ≤ 64 := by rw [bs_size, List.length_map]; have := HI.out.len; omega
      rw [show ((t + 1 : Nat) : Int) - 1 = (t : Int) by omega]
      go_wp2_with (first
        | (go_at_call 12; refine (Digit_any _ _).mono ?_; rintro e w' ⟨rfl, rfl⟩)
        | (go_at_call 13; refine (Text_any b r _ hb hb2 (by omega)).mono ?_; rintro e w3 ⟨rfl, hw3⟩))
      refine ⟨⟨t, q, r :: R, rfl, by omega, rfl, hqm, ?_, HS.out, hBr.trans (hw3.mono hBr.size)⟩, ?_⟩
      · rw [bs_append]; rfl
      · simp [intOf]
    · obtain rfl : t = 0 := by omega
      rw [show ((0 : Nat) : Int) - 1 = -1 by omega]
      have HF := Lib.hid (FIN.out R c HI.out)
      have z2 : (bs (R.map dch)).size ≤ 64 := by rw [bs_size, List.length_map]; have := HI.out.len; omega
      by_cases hc0 : c = 0
      · subst hc0
        rw [show ((0 : Nat) : Int) = 0 from rfl]
        go_wp2_with (go_at_call 11; refine (FormatUint_of _ b (x * m) _ (by rw [HY.out]) _ hb hb2 (by have := HXM.out; omega) (hE.on hBr)).mono ?_; rintro e w3 ⟨rfl, hw3⟩)
        go_ret
        refine ⟨?_, hBr.trans (hw3.mono hBr.size)⟩
        show Ending.returned (Value.bool _) = _
        rw [str_eq (HF.out.trans (by simp))]
      · have hcb : c < b := by omega
        have hR := str_digit hcb
        have z1 : (bs [dch c]).size ≤ 1 := by rw [bs_size]; simp
        have hcp : 0 < c := by omega
        go_wp2_with (first
          | (go_at_call 13; refine (Text_any b c _ hb hb2 (by omega)).mono ?_; rintro e w3 ⟨rfl, hw3⟩)
          | (go_at_call 11; refine (FormatUint_of _ b (x * m) _ (by rw [HY.out]) _ hb hb2 (by have := HXM.out; omega) (hE.on (hBr.trans (hw3.mono hBr.size)))).mono ?_; rintro e w4 ⟨rfl, hw4⟩))
        go_ret
        have hB3 := hBr.trans (hw3.mono hBr.size)
        refine ⟨?_, hB3.trans (hw4.mono hB3.size)⟩
        show Ending.returned (Value.bool _) = _
        rw [str_bs_eq (HF.out.trans (if_neg hc0))]

theorem walk (x : Int) (wx : (Lit.int .u64 x).wf = true) (m : Int) (wm : (Lit.int .i64 m).wf = true) (b : Int) (wb : (Lit.int .i64 b).wf = true) (w : World) (hE : Env w.heap.size w) :
    Calls Tryd.prog 9 #[.int .u64 x, .int .i64 m, .int .i64 b] w fun e w' => e = .returned (.bool true) ∧ Below w.heap.size w w' := by
  obtain ⟨x, rfl, hx⟩ := wf_u64 wx
  by_cases hb : 2 ≤ b ∧ b ≤ 36
  · obtain ⟨b, rfl⟩ : ∃ n : Nat, b = n := ⟨b.toNat, by omega⟩
    by_cases hm : m < 1
    · have g1 : decide (m < 1) = true := by simpa using hm
      go_enter Tryd.func9, Tryd.ntmps9
      go_wp2_with (go_at_call 10; refine (based_yes b _ (by omega) (by omega)).mono ?_; rintro e w' ⟨rfl, rfl⟩)
      go_ret
      exact ⟨rfl, Below.refl _ _⟩
    · obtain ⟨m, rfl⟩ : ∃ n : Nat, m = n := ⟨m.toNat, by omega⟩
      have g1 : decide ((m : Int) < 1) = false := by simpa using hm
      by_cases hmb : b ≤ m
      · have g2 : decide (b ≤ m) = true := by simp; omega
        go_enter Tryd.func9, Tryd.ntmps9
        go_wp2_with (go_at_call 10; refine (based_yes b _ (by omega) (by omega)).mono ?_; rintro e w' ⟨rfl, rfl⟩)
        go_ret
        exact ⟨rfl, Below.refl _ _⟩
      · by_cases hxm : x * m ≤ 18446744073709551615
        · exact walkOf x m b hx (by omega) (by omega) hxm (by omega) (by omega) w hE
        · obtain ⟨t, ht, hle⟩ := top_facts x m (by omega)
          have hxt : t < x := Nat.lt_of_not_le (fun h => hxm (hle.1 h))
          clear hle hxm
          have g2 : decide (b ≤ m) = false := by simp; omega
          have g3 : decide (t < x) = true := by simp; omega
          go_enter Tryd.func9, Tryd.ntmps9
          go_wp2_with (go_at_call 10; refine (based_yes b _ (by omega) (by omega)).mono ?_; rintro e w' ⟨rfl, rfl⟩)
          go_ret
          exact ⟨rfl, Below.refl _ _⟩
  · go_enter Tryd.func9, Tryd.ntmps9
    go_wp2_with (go_at_call 10; refine (based_no b _ hb).mono ?_; rintro e w' ⟨rfl, rfl⟩)
    go_ret
    exact ⟨rfl, Below.refl _ _⟩
end fnTimes
namespace fnTimes
open Go.ChangeShapes Go.WideShapes Go.ChangeAt Go.RowKit
set_option maxRecDepth 100000 in
theorem contract (H : Type) (enc : TypeId × Value → H) (W : World) (base : Nat) (args : Array Value) (ds gs : List (DataW H)) (before : List MemPlace)
    (hval : ∀ (j : Nat) t v, Tryd.f9.params[j]? = some t → args[j]? = some v → Value.okWide Tryd.prog W .any base t v)
    (hW : DataW.Whole enc Tryd.prog Tryd.f9.params.toList Rows.fnTimesSpec.vars false W args.toList ds gs before) (hL : laidMetH Tryd.prog Rows.fnTimesRow.laid W) :
    Calls Tryd.prog 9 args W fun e W' => ∃ v, e = .returned v ∧ Rows.fnTimesSpec.post enc Tryd.prog Tryd.f9 false true false false W args v W' := by
  have hW' := hW
  obtain ⟨p, q, hA0, hV, rfl, hfz, hnd⟩ := hW
  have hA : DataW.TrodAll enc Tryd.prog W 0 (fun _ => true) true Tryd.f9.params.toList args.toList ds p := hA0
  rw [Tryd.params9] at hA hval
  obtain ⟨v0, vs0, d0, ds0, p0, q0, hargs, rfl, rfl, h0, r0⟩ := trodAll_cons hA
  obtain ⟨v1, vs1, d1, ds1, p1, q1, rfl, rfl, rfl, h1, r1⟩ := trodAll_cons r0
  obtain ⟨v2, vs2, d2, ds2, p2, q2, rfl, rfl, rfl, h2, r2⟩ := trodAll_cons r1
  obtain ⟨rfl, rfl, rfl⟩ := trodAll_nil r2
  obtain rfl : args = #[v0, v1, v2] := by cases args; simp_all
  obtain ⟨rfl, rfl⟩ := trodVars_none hV
  obtain ⟨x0, rfl, rfl, rfl, w0⟩ := open_int Tryd.underlying22 (hval 0 22 v0 rfl rfl) h0
  obtain ⟨x1, rfl, rfl, rfl, w1⟩ := open_int Tryd.underlying3 (hval 1 3 v1 rfl rfl) h1
  obtain ⟨x2, rfl, rfl, rfl, w2⟩ := open_int Tryd.underlying3 (hval 2 3 v2 rfl rfl) h2
  clear hA0
  simp only [List.append_nil] at hW'
  refine (walk x0 w0 x1 w1 x2 w2 W (env_of hL)).mono fun e W' ⟨he, hg⟩ => ?_
  subst he
  refine ⟨_, rfl, _, _, _, [], [], [], hW', ?_, ?_, rfl, hg.frame _, fun h => by cases h⟩
  · exact trodAll_cons_mk (shut_bool Tryd.underlying4 _) trodAll_mk0
  · exact trodAll_cons_mk (shut_int Tryd.underlying22 w0) (trodAll_cons_mk (shut_int Tryd.underlying3 w1) (trodAll_cons_mk (shut_int Tryd.underlying3 w2) (trodAll_mk0)))

theorem laid_met (os : Os) : laidMet Tryd.prog Rows.fnTimesRow.laid ((laidWorld os).forCall (fun _ _ => 0) ⟨#[], #[.int .u64 0, .int .i64 0, .int .i64 0], []⟩).memory :=
  laidMet_of_run' 8 (by kernel_rfl) (by kernel_rfl)
theorem reads (os : Os) {H : Type} (enc : TypeId × Value → H) : ∃ places, DataW.whole enc Tryd.prog ((laidWorld os).forCall (fun _ _ => 0) ⟨#[], #[.int .u64 0, .int .i64 0, .int .i64 0], []⟩).memory Tryd.f9.params.toList Rows.fnTimesSpec.vars false #[(.int .u64 0 : Value), (.int .i64 0 : Value), (.int .i64 0 : Value)].toList 8 = some ([.lit (.int .u64 0), .lit (.int .i64 0), .lit (.int .i64 0)], [], places) :=
  ⟨[], by kernel_rfl⟩

set_option maxRecDepth 100000 in
theorem lifted (os : Os) (started : os.Started) (H : Type) (enc : TypeId × Value → H) (F : Stop.Interp) :
    ReturnsInHanded {} Tryd.checked os 9 .any ((OpenSpec.ofChange Rows.fnTimesSpec).preRow enc Tryd.prog Tryd.f9 Rows.fnTimesRow.domain false Rows.fnTimesRow.laid) (((OpenSpec.ofChange Rows.fnTimesSpec).at F).post enc Tryd.prog Tryd.f9 false true false false) := by
  obtain ⟨places, hx⟩ := reads os enc
  refine returnsInHanded_of_row (C := Tryd.checked) (s := OpenSpec.ofChange Rows.fnTimesSpec) ownKnobs started (by kernel_rfl) Tryd.func9
    (witness_row_at (enc := enc) (C := Tryd.checked) false (laidWorld os) #[.int .u64 0, .int .i64 0, .int .i64 0] rfl (by kernel_rfl) (by kernel_rfl) (by kernel_rfl)
      (OpenSpec.preRow_of_cond 8 hx (by kernel_rfl) (fun k hk => by cases hk) (by kernel_rfl) (laid_met os))) ?_
  intro W base args ds gs before hval hW _ _ _ hL _ _
  exact contract H enc W base args ds gs before hval hW hL

theorem said : Rows.FnTimesSaid :=
  OpenClaim.holds_of_cond 9 Tryd.f9 rfl rfl rfl rfl rfl rfl rfl ⟨rfl, rfl, rfl, rfl, rfl⟩ rfl rfl rfl rfl rfl (by kernel_rfl) Tryd.func9 (by kernel_rfl)
    (of_decide_eq_true (by kernel_rfl)) (by unfold Func.isWrapper; first | (rw [if_pos (by decide +kernel)]; kernel_rfl) | (rw [if_neg (by decide +kernel)]; exact ⟨rfl, rfl⟩))
    (fun os started H enc _ F => by rw [OpenClaim.pre_eq_preRow]; exact lifted os started H enc F)

theorem plain (f : FuncId) (fn : Func) (hf : Tryd.pinned.checked.prog.funcNamed "loop.example/lib-g01429/laws.FnTimes" = some f) (hfn : Tryd.pinned.checked.prog.funcs[f]? = some fn) :
    false = Tryd.pinned.checked.prog.looks [] ∧ ∀ (j : Nat) t, fn.params[j]? = some t → Tryd.pinned.checked.prog.wantsStandIn t = false := by
  obtain rfl : f = 9 := Option.some.inj ((show Tryd.prog.funcNamed "loop.example/lib-g01429/laws.FnTimes" = some 9 by kernel_rfl).symm.trans hf) |>.symm
  obtain rfl : fn = Tryd.f9 := (Option.some.inj (Tryd.func9.symm.trans hfn)).symm
  refine ⟨by kernel_rfl, fun j t ht => ?_⟩
  rw [Tryd.params9] at ht
  have hm := Array.mem_of_getElem? ht
  simp only [List.mem_toArray, List.mem_cons, List.not_mem_nil, or_false] at hm
  rcases hm with rfl | rfl | rfl
  · exact (show Tryd.prog.wantsStandIn 22 = false by kernel_rfl)
  · exact (show Tryd.prog.wantsStandIn 3 = false by kernel_rfl)
  · exact (show Tryd.prog.wantsStandIn 3 = false by kernel_rfl)

/-- THE CARD. -/
theorem card : Rows.FnTimesCardSaid :=
  Claim7.holds_tied_plain_at .later [] _ _ _ _ said (fun _ h => by cases h) (by kernel_rfl) (fun _ h => by cases h) fnTimes_row_tie rfl ⟨rfl, rfl⟩ (by kernel_rfl) rfl plain (by kernel_rfl)
end fnTimes
end Go.Proofs.YtjcejkenjmkinaaDoor
