/- FnDigitSum returns true for every number and every base: a number and the sum of its digits have the same remainder by one less than the base, and the alternating sum the same by one more. Conditions: none beyond the card's own. -/
import Derived.Test.YtjcejkenjmkinaaDoorSpec
namespace Go.Proofs.YtjcejkenjmkinaaDoor
open Go.RowKit
namespace fnDigitSum

/-- The sum of the digits, and the sum with signs in turn from the right. -/
def sum (l : List Nat) : Nat := l.foldl (fun s d => s + d) 0
def alt (l : List Nat) : Int := l.foldl (fun (t : Int) (d : Nat) => (d : Int) - t) 0
theorem sum_snoc (l : List Nat) (d : Nat) : sum (l ++ [d]) = sum l + d := by simp [sum]
theorem alt_snoc (l : List Nat) (d : Nat) : alt (l ++ [d]) = (d : Int) - alt l := by simp [alt]

theorem sum_le {b : Nat} (l : List Nat) (h : ∀ d ∈ l, d < b) : sum l ≤ b * l.length := by
  induction l using snoc_ind with
  | h0 => simp [sum]
  | h1 l d ih =>
    have h1 := ih (fun x hx => h x (by simp [hx]))
    have h2 := h d (by simp)
    rw [sum_snoc, List.length_append, Nat.mul_add]
    simp
    omega
theorem alt_le {b : Nat} (l : List Nat) (h : ∀ d ∈ l, d < b) : -((b * l.length : Nat) : Int) ≤ alt l ∧ alt l ≤ ((b * l.length : Nat) : Int) := by
  induction l using snoc_ind with
  | h0 => simp [alt]
  | h1 l d ih =>
    have h1 := ih (fun x hx => h x (by simp [hx]))
    have h2 := h d (by simp)
    have e : b * (l ++ [d]).length = b * l.length + b := by simp [Nat.mul_add]
    rw [alt_snoc, e]
    omega

/-- b = 1 modulo one less than b. -/
theorem sum_mod {b : Nat} (hb : 2 ≤ b) (l : List Nat) : ∃ c : Nat, val b l = sum l + c * (b - 1) := by
  induction l using snoc_ind with
  | h0 => exact ⟨0, by simp [val, sum]⟩
  | h1 l d ih =>
    obtain ⟨c, hc⟩ := ih
    rw [val_snoc, sum_snoc, hc]
    refine ⟨sum l + c * b, ?_⟩
    obtain ⟨e, rfl⟩ : ∃ e, b = e + 1 := ⟨b - 1, by omega⟩
    simp only [Nat.add_sub_cancel, Nat.add_mul, Nat.mul_add, Nat.mul_one]
    have : c * e * e = c * (e * e) := Nat.mul_assoc _ _ _
    have : c * e * e = c * e * e := rfl
    omega
/-- b = -1 modulo one more than b. -/
theorem alt_mod {b : Nat} (l : List Nat) : ∃ c : Int, (val b l : Int) = alt l + c * (b + 1) := by
  induction l using snoc_ind with
  | h0 => exact ⟨0, by simp [val, alt]⟩
  | h1 l d ih =>
    obtain ⟨c, hc⟩ := ih
    rw [val_snoc, alt_snoc]
    refine ⟨alt l + c * b, ?_⟩
    rw [Int.natCast_add, Int.natCast_mul, hc]
    simp only [Int.add_mul, Int.mul_add, Int.mul_one]
    have : c * (b : Int) * (b : Int) = c * (b : Int) * (b : Int) := rfl
    omega

/-- The last line's numbers, as Go reckons them. -/
theorem fin_sum {b x : Nat} (hb : 2 ≤ b) (hx : x = val b (digs b x)) : ((x : Int) % ((b : Int) - 1) == ((sum (digs b x) : Nat) : Int) % ((b : Int) - 1)) = true := by
  obtain ⟨c, hc⟩ := sum_mod hb (digs b x)
  rw [← hx] at hc
  have h1 : ((x : Nat) : Int) = (sum (digs b x) : Int) + (c : Int) * ((b : Int) - 1) := by
    have h2 : ((b - 1 : Nat) : Int) = (b : Int) - 1 := by omega
    rw [← h2, ← Int.natCast_mul, ← Int.natCast_add, ← hc]
  rw [beq_iff_eq]
  generalize (x : Int) = X at *
  rw [h1, Int.add_mul_emod_self_right]
theorem fin_alt {b x : Nat} (hx : x = val b (digs b x)) :
    ((x : Int) % ((b : Int) + 1) == ((alt (digs b x)).tmod ((b : Int) + 1) + (b : Int) + 1) % ((b : Int) + 1)) = true := by
  obtain ⟨c, hc⟩ := alt_mod (b := b) (digs b x)
  rw [← hx] at hc
  rw [beq_iff_eq, hc, Int.add_mul_emod_self_right]
  generalize alt (digs b x) = a
  have h1 : a.tmod ((b : Int) + 1) + (b : Int) + 1 = a + (1 - a.tdiv ((b : Int) + 1)) * ((b : Int) + 1) := by
    have := Int.tmod_add_mul_tdiv a ((b : Int) + 1)
    rw [Int.mul_comm] at this
    rw [Int.sub_mul, Int.one_mul]
    omega
  rw [h1, Int.add_mul_emod_self_right]

theorem tmod_bd (a : Int) (b : Nat) : -(b : Int) ≤ a.tmod ((b : Int) + 1) ∧ a.tmod ((b : Int) + 1) ≤ (b : Int) := by
  have h := Int.tmod_lt_of_pos a (show (0 : Int) < (b : Int) + 1 by omega)
  have h2 := Int.tmod_lt_of_pos (-a) (show (0 : Int) < (b : Int) + 1 by omega)
  rw [Int.neg_tmod] at h2
  omega
theorem emod_bd (a : Int) (b : Nat) : 0 ≤ a % ((b : Int) + 1) ∧ a % ((b : Int) + 1) ≤ (b : Int) := by
  have h := Int.emod_lt_of_pos a (show (0 : Int) < (b : Int) + 1 by omega)
  have h2 := Int.emod_nonneg a (show (b : Int) + 1 ≠ 0 by omega)
  omega
theorem wrap_mod (s b : Nat) (hs : s < 18446744073709551616) (hb : 2 ≤ b) : IntKind.u64.wrap ((s : Int) % ((b : Int) - 1)) = (s : Int) % ((b : Int) - 1) := by
  rw [IntKind.wrap_u64, show (b : Int) - 1 = ((b - 1 : Nat) : Int) by omega, ← Int.natCast_emod]
  have := Nat.mod_le s (b - 1)
  generalize s % (b - 1) = t at *
  omega

set_option maxHeartbeats 2000000 in
set_option maxRecDepth 100000 in
theorem walkOf (x b : Nat) (hx : x < 18446744073709551616) (hb : 2 ≤ b) (hb2 : b ≤ 36) (w : World) (hE : Env w.heap.size w) :
    Calls Tryd.prog 3 #[.int .u64 x, .int .i64 b] w fun e w' => e = .returned (.bool true) ∧ Below w.heap.size w w' := by
  have hlen : (digs b x).length ≤ 64 := digs_len hb 63 x (by omega)
  have hbd := digs_bd hb x
  have hss := str_size b x
  have hget := str_get b x
  have HS := Lib.hid hss
  have HG := Lib.hid hget
  have HB := Lib.hid hbd
  clear hss hget hbd
  go_enter Tryd.func3, Tryd.ntmps3
  go_wp2_with (first
    | (go_at_call 10; refine (based_yes b _ hb hb2).mono ?_; rintro e w' ⟨rfl, rfl⟩)
    | (go_at_call 11; refine (FormatUint_any b x _ _ hb hb2 hx hE).mono ?_; rintro e w1 ⟨rfl, hw⟩))
  go_loop [6, 7, 8, 9, 20] (fun s t _ _ i => ∃ k : Nat, k ≤ (digs b x).length ∧ i = .int .i64 k ∧ s = .int .i64 (sum ((digs b x).take k) : Nat) ∧ t = .int .i64 (alt ((digs b x).take k))) (fun _ _ _ _ i => (digs b x).length - (intOf i).toNat)
  case atStart => exact ⟨0, Nat.zero_le _, rfl, rfl, rfl⟩
  case round =>
    obtain ⟨k, hk, rfl, rfl, rfl⟩ := hrel
    have hs1 := sum_le (b := b) ((digs b x).take k) (fun d hd => HB.out d (List.mem_of_mem_take hd))
    have ht1 := alt_le (b := b) ((digs b x).take k) (fun d hd => HB.out d (List.mem_of_mem_take hd))
    have hm : b * ((digs b x).take k).length ≤ 36 * 64 := Nat.mul_le_mul hb2 (by rw [List.length_take]; omega)
    have hs2 : sum ((digs b x).take k) ≤ 2304 := by omega
    have ht2 : -2304 ≤ alt ((digs b x).take k) ∧ alt ((digs b x).take k) ≤ 2304 := by omega
    clear hs1 ht1 hm
    by_cases hlt : k < (digs b x).length
    · have hd : (digs b x)[k] < b := HB.out _ (List.getElem_mem hlt)
      have e1 := sum_snoc ((digs b x).take k) (digs b x)[k]
      have e2 := alt_snoc ((digs b x).take k) (digs b x)[k]
      rw [← List.take_succ_eq_append_getElem hlt] at e1 e2
      have hsz : k < (str b x).size := by rw [HS.out]; exact hlt
      have hch := HG.out k hsz
      have hch2 : (((str b x)[k]).toNat : Int) = ((dch (digs b x)[k]).toNat : Int) := by rw [hch]
      have E1 := Lib.hid e1
      have E2 := Lib.hid e2
      have C := Lib.hid hch2
      clear e1 e2 hch hch2
      go_wp2_with (go_at_call 12; refine (Digit_dch (digs b x)[k] (by omega) _ C.out _).mono ?_; rintro e w' ⟨rfl, rfl⟩)
      go_round
      case rel => exact ⟨k + 1, by omega, by go_num, by rw [E1.out]; go_num, by rw [E2.out]⟩
      case measure => simp [intOf]; omega
    · obtain rfl : k = (digs b x).length := by omega
      have hns : ¬ (((digs b x).length : Nat) : Int) < ((str b x).size : Int) := by rw [HS.out]; omega
      rw [List.take_length] at hs2 ht2
      have htm := tmod_bd (alt (digs b x)) b
      have hemp := str_ne b x
      have hemp2 : (!(str b x).toList.isEmpty) = true := by rw [hemp]; rfl
      have f1 := fin_sum hb (val_digs hb x).symm
      have f2 := fin_alt (val_digs hb x).symm
      have hq := emod_bd ((alt (digs b x)).tmod ((b : Int) + 1) + (b : Int) + 1) b
      have hw2 := wrap_mod (sum (digs b x)) b (by omega) hb
      have hw3 : IntKind.u64.wrap (((alt (digs b x)).tmod ((b : Int) + 1) + (b : Int) + 1) % ((b : Int) + 1)) = ((alt (digs b x)).tmod ((b : Int) + 1) + (b : Int) + 1) % ((b : Int) + 1) := by
        rw [IntKind.wrap_u64]; omega
      go_wp2
      by_cases hb2' : b = 2
      · have g2 : ((b : Int) == 2) = true := by simp; omega
        have H2 := Lib.hid hb2'
        clear hb2'
        go_quiet (fail)
        go_wp2
        go_ret
        exact ⟨rfl, below_drewN hw _⟩
      · have g2 : ((b : Int) == 2) = false := by simp; omega
        go_quiet (fail)
        go_wp2
        go_ret
        exact ⟨rfl, below_drewN hw _⟩

theorem walk (x : Int) (wx : (Lit.int .u64 x).wf = true) (b : Int) (wb : (Lit.int .i64 b).wf = true) (w : World) (hE : Env w.heap.size w) :
    Calls Tryd.prog 3 #[.int .u64 x, .int .i64 b] w fun e w' => e = .returned (.bool true) ∧ Below w.heap.size w w' := by
  obtain ⟨x, rfl, hx⟩ := wf_u64 wx
  by_cases hb : 2 ≤ b ∧ b ≤ 36
  · obtain ⟨b, rfl⟩ : ∃ n : Nat, b = n := ⟨b.toNat, by omega⟩
    exact walkOf x b hx (by omega) (by omega) w hE
  · go_enter Tryd.func3, Tryd.ntmps3
    go_wp2_with (go_at_call 10; refine (based_no b _ hb).mono ?_; rintro e w' ⟨rfl, rfl⟩)
    go_ret
    exact ⟨rfl, Below.refl _ _⟩
end fnDigitSum
namespace fnDigitSum
open Go.ChangeShapes Go.WideShapes Go.ChangeAt Go.RowKit
set_option maxRecDepth 100000 in
theorem contract (H : Type) (enc : TypeId × Value → H) (W : World) (base : Nat) (args : Array Value) (ds gs : List (DataW H)) (before : List MemPlace)
    (hval : ∀ (j : Nat) t v, Tryd.f3.params[j]? = some t → args[j]? = some v → Value.okWide Tryd.prog W .any base t v)
    (hW : DataW.Whole enc Tryd.prog Tryd.f3.params.toList Rows.fnDigitSumSpec.vars false W args.toList ds gs before) (hL : laidMetH Tryd.prog Rows.fnDigitSumRow.laid W) :
    Calls Tryd.prog 3 args W fun e W' => ∃ v, e = .returned v ∧ Rows.fnDigitSumSpec.post enc Tryd.prog Tryd.f3 false true false false W args v W' := by
  have hW' := hW
  obtain ⟨p, q, hA0, hV, rfl, hfz, hnd⟩ := hW
  have hA : DataW.TrodAll enc Tryd.prog W 0 (fun _ => true) true Tryd.f3.params.toList args.toList ds p := hA0
  rw [Tryd.params3] at hA hval
  obtain ⟨v0, vs0, d0, ds0, p0, q0, hargs, rfl, rfl, h0, r0⟩ := trodAll_cons hA
  obtain ⟨v1, vs1, d1, ds1, p1, q1, rfl, rfl, rfl, h1, r1⟩ := trodAll_cons r0
  obtain ⟨rfl, rfl, rfl⟩ := trodAll_nil r1
  obtain rfl : args = #[v0, v1] := by cases args; simp_all
  obtain ⟨rfl, rfl⟩ := trodVars_none hV
  obtain ⟨x0, rfl, rfl, rfl, w0⟩ := open_int Tryd.underlying22 (hval 0 22 v0 rfl rfl) h0
  obtain ⟨x1, rfl, rfl, rfl, w1⟩ := open_int Tryd.underlying3 (hval 1 3 v1 rfl rfl) h1
  clear hA0
  simp only [List.append_nil] at hW'
  refine (walk x0 w0 x1 w1 W (env_of hL)).mono fun e W' ⟨he, hg⟩ => ?_
  subst he
  refine ⟨_, rfl, _, _, _, [], [], [], hW', ?_, ?_, rfl, hg.frame _, fun h => by cases h⟩
  · exact trodAll_cons_mk (shut_bool Tryd.underlying4 _) trodAll_mk0
  · exact trodAll_cons_mk (shut_int Tryd.underlying22 w0) (trodAll_cons_mk (shut_int Tryd.underlying3 w1) (trodAll_mk0))

theorem laid_met (os : Os) : laidMet Tryd.prog Rows.fnDigitSumRow.laid ((laidWorld os).forCall (fun _ _ => 0) ⟨#[], #[.int .u64 0, .int .i64 0], []⟩).memory :=
  laidMet_of_run' 8 (by kernel_rfl) (by kernel_rfl)
theorem reads (os : Os) {H : Type} (enc : TypeId × Value → H) : ∃ places, DataW.whole enc Tryd.prog ((laidWorld os).forCall (fun _ _ => 0) ⟨#[], #[.int .u64 0, .int .i64 0], []⟩).memory Tryd.f3.params.toList Rows.fnDigitSumSpec.vars false #[(.int .u64 0 : Value), (.int .i64 0 : Value)].toList 8 = some ([.lit (.int .u64 0), .lit (.int .i64 0)], [], places) :=
  ⟨[], by kernel_rfl⟩

set_option maxRecDepth 100000 in
theorem lifted (os : Os) (started : os.Started) (H : Type) (enc : TypeId × Value → H) (F : Stop.Interp) :
    ReturnsInHanded {} Tryd.checked os 3 .any ((OpenSpec.ofChange Rows.fnDigitSumSpec).preRow enc Tryd.prog Tryd.f3 Rows.fnDigitSumRow.domain false Rows.fnDigitSumRow.laid) (((OpenSpec.ofChange Rows.fnDigitSumSpec).at F).post enc Tryd.prog Tryd.f3 false true false false) := by
  obtain ⟨places, hx⟩ := reads os enc
  refine returnsInHanded_of_row (C := Tryd.checked) (s := OpenSpec.ofChange Rows.fnDigitSumSpec) ownKnobs started (by kernel_rfl) Tryd.func3
    (witness_row_at (enc := enc) (C := Tryd.checked) false (laidWorld os) #[.int .u64 0, .int .i64 0] rfl (by kernel_rfl) (by kernel_rfl) (by kernel_rfl)
      (OpenSpec.preRow_of_cond 8 hx (by kernel_rfl) (fun k hk => by cases hk) (by kernel_rfl) (laid_met os))) ?_
  intro W base args ds gs before hval hW _ _ _ hL _ _
  exact contract H enc W base args ds gs before hval hW hL

theorem said : Rows.FnDigitSumSaid :=
  OpenClaim.holds_of_cond 3 Tryd.f3 rfl rfl rfl rfl rfl rfl rfl ⟨rfl, rfl, rfl, rfl, rfl⟩ rfl rfl rfl rfl rfl (by kernel_rfl) Tryd.func3 (by kernel_rfl)
    (of_decide_eq_true (by kernel_rfl)) (by unfold Func.isWrapper; first | (rw [if_pos (by decide +kernel)]; kernel_rfl) | (rw [if_neg (by decide +kernel)]; exact ⟨rfl, rfl⟩))
    (fun os started H enc _ F => by rw [OpenClaim.pre_eq_preRow]; exact lifted os started H enc F)

theorem plain (f : FuncId) (fn : Func) (hf : Tryd.pinned.checked.prog.funcNamed "loop.example/lib-g01429/laws.FnDigitSum" = some f) (hfn : Tryd.pinned.checked.prog.funcs[f]? = some fn) :
    false = Tryd.pinned.checked.prog.looks [] ∧ ∀ (j : Nat) t, fn.params[j]? = some t → Tryd.pinned.checked.prog.wantsStandIn t = false := by
  obtain rfl : f = 3 := Option.some.inj ((show Tryd.prog.funcNamed "loop.example/lib-g01429/laws.FnDigitSum" = some 3 by kernel_rfl).symm.trans hf) |>.symm
  obtain rfl : fn = Tryd.f3 := (Option.some.inj (Tryd.func3.symm.trans hfn)).symm
  refine ⟨by kernel_rfl, fun j t ht => ?_⟩
  rw [Tryd.params3] at ht
  have hm := Array.mem_of_getElem? ht
  simp only [List.mem_toArray, List.mem_cons, List.not_mem_nil, or_false] at hm
  rcases hm with rfl | rfl
  · exact (show Tryd.prog.wantsStandIn 22 = false by kernel_rfl)
  · exact (show Tryd.prog.wantsStandIn 3 = false by kernel_rfl)

/-- THE CARD. -/
theorem card : Rows.FnDigitSumCardSaid :=
  Claim7.holds_tied_plain_at .later [] _ _ _ _ said (fun _ h => by cases h) (by kernel_rfl) (fun _ h => by cases h) fnDigitSum_row_tie rfl ⟨rfl, rfl⟩ (by kernel_rfl) rfl plain (by kernel_rfl)
end fnDigitSum
end Go.Proofs.YtjcejkenjmkinaaDoor
