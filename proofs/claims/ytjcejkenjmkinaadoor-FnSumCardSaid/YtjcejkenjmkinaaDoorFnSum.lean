/- FnSum returns true for all numbers and bases: the digits of a sum are those that one finds by adding digits from the right and carrying one. Conditions: none beyond the card's own. -/
import Derived.Test.YtjcejkenjmkinaaDoorText
namespace Go.Proofs.YtjcejkenjmkinaaDoor
open Go.RowKit
namespace fnSum

/-- What holds when the digits from place t on have been added: R is what is written, c is carried. -/
structure Inv (b : Nat) (A B : List Nat) (t : Nat) (R : List Nat) (c : Nat) : Prop where
  len : R.length + t = A.length
  bd : ∀ d ∈ R, d < b
  c1 : c ≤ 1
  eq : val b R + c * b ^ R.length = val b (A.drop t) + val b (B.drop t)

theorem Inv.start (b : Nat) (A B : List Nat) (h : B.length = A.length) : Inv b A B A.length [] 0 :=
  ⟨by simp, by simp, by omega, by rw [List.drop_length, ← h, List.drop_length]; simp [val]⟩

theorem Inv.step {b : Nat} {A B : List Nat} {t : Nat} {R : List Nat} {c : Nat} (hb : 2 ≤ b) (h : Inv b A B (t + 1) R c) (hA : t < A.length) (hB : t < B.length) (hl : B.length = A.length)
    (ha : A[t] < b) (hb' : B[t] < b) : Inv b A B t ((A[t] + B[t] + c) % b :: R) ((A[t] + B[t] + c) / b) := by
  obtain ⟨h1, h2, h3, h4⟩ := h
  refine ⟨by simp; omega, ?_, ?_, ?_⟩
  · intro d hd
    rcases List.mem_cons.1 hd with rfl | hd
    · exact Nat.mod_lt _ (by omega)
    · exact h2 d hd
  · have : (A[t] + B[t] + c) / b < 2 := (Nat.div_lt_iff_lt_mul (by omega)).2 (by omega)
    omega
  · have e1 : (A.drop (t + 1)).length = R.length := by simp; omega
    have e2 : (B.drop (t + 1)).length = R.length := by simp; omega
    rw [List.drop_eq_getElem_cons hA, List.drop_eq_getElem_cons hB, val_cons, val_cons, val_cons, List.length_cons, e1, e2, Nat.pow_succ]
    have h5 := Nat.div_add_mod (A[t] + B[t] + c) b
    generalize (A[t] + B[t] + c) / b = q at *
    generalize (A[t] + B[t] + c) % b = r at *
    have h6 : r * b ^ R.length + q * (b ^ R.length * b) = (A[t] + B[t] + c) * b ^ R.length := by
      rw [← h5, Nat.add_mul, Nat.mul_comm (b ^ R.length) b, ← Nat.mul_assoc, Nat.mul_comm q b]
      omega
    rw [Nat.add_mul, Nat.add_mul] at h6
    omega

theorem Inv.fin {b x y kx ky : Nat} (hb : 2 ≤ b) {R : List Nat} {c : Nat} (h : Inv b (zd kx b x) (zd ky b y) 0 R c) (hl : (zd ky b y).length = (zd kx b x).length) (hk : kx = 0 ∨ ky = 0) :
    digs b (x + y) = if c = 0 then R else 1 :: R := by
  obtain ⟨h1, h2, h3, h4⟩ := h
  rw [List.drop_zero, List.drop_zero, val_zd hb, val_zd hb] at h4
  rw [zd_len] at h1 hl
  rw [zd_len] at hl
  have p1 := digs_pos b x
  split
  · rename_i hc
    subst hc
    refine digs_of hb (norm_of_ge (fun e => by subst e; simp at h1; omega) h2 (fun hr => ?_)) (by omega)
    have h5 : val b R = x + y := by omega
    rw [h5]
    rcases hk with rfl | rfl
    · have := digs_ge_pow hb x (by omega)
      rw [show R.length - 1 = (digs b x).length - 1 by omega]
      omega
    · have := digs_ge_pow hb y (by omega)
      rw [show R.length - 1 = (digs b y).length - 1 by omega]
      omega
  · rename_i hc
    obtain rfl : c = 1 := by omega
    refine digs_of hb ⟨by simp, fun d hd => ?_, fun _ => by simp⟩ (by rw [val_cons]; omega)
    rcases List.mem_cons.1 hd with rfl | hd
    · omega
    · exact h2 d hd

theorem str_eq {b u : Nat} {l : List Nat} (h : digs b u = l) : ((str b u).toList == (bs (l.map dch)).toList) = true := by
  rw [str_bs, bs_toList, bs_toList, text, h]; simp
theorem str_bs_eq {b u : Nat} {l : List Nat} (h : digs b u = 1 :: l) : ((str b u).toList == ((⟨#[49]⟩ : ByteArray) ++ bs (l.map dch)).toList) = true := by
  rw [bs_one, bs_append, str_bs, bs_toList, bs_toList, text, h]
  simp [dch]
theorem step_facts (n b : Nat) (hb : 2 ≤ b) (hn : n < 2 * b) (hb2 : b ≤ 36) : ∃ q r : Nat, q = n / b ∧ r = n % b ∧ r < b ∧ q ≤ 1 ∧ (n : Int) / (b : Int) = (q : Int) ∧ (n : Int) % (b : Int) = (r : Int) ∧ IntKind.u64.wrap (r : Int) = (r : Int) := by
  have h1 : n / b < 2 := (Nat.div_lt_iff_lt_mul (by omega)).2 (by omega)
  have h2 : n % b < b := Nat.mod_lt _ (by omega)
  have h3 : n % b ≤ n := Nat.mod_le _ _
  refine ⟨n / b, n % b, rfl, rfl, h2, by omega, by rw [Int.natCast_ediv], by rw [Int.natCast_emod], ?_⟩
  rw [IntKind.wrap_u64]
  generalize n % b = r at *
  omega
theorem str_digit {b d : Nat} (h : d < b) : str b d = bs [dch d] := by rw [str_bs, text, digs_lt h]; rfl

/-- The string in a slot, for a loop's measure. -/
def strOf : Value → ByteArray | .string s => s | _ => ByteArray.empty

set_option maxHeartbeats 4000000 in
set_option maxRecDepth 100000 in
theorem walkOf (x y b : Nat) (hx : x < 18446744073709551616) (hy : y < 18446744073709551616) (hxy : x + y < 18446744073709551616) (hb : 2 ≤ b) (hb2 : b ≤ 36) (w : World) (hE : Env w.heap.size w) :
    Calls Tryd.prog 8 #[.int .u64 x, .int .u64 y, .int .i64 b] w fun e w' => e = .returned (.bool true) ∧ Below w.heap.size w w' := by
  have e1 := str_ne b x
  have e2 := str_ne b y
  have l1 := digs_len hb 63 x (by omega)
  have l2 := digs_len hb 63 y (by omega)
  have hg : decide (18446744073709551615 - (x : Int) < (y : Int)) = false := by simp; omega
  go_enter Tryd.func8, Tryd.ntmps8
  go_wp2_with (go_at_call 10; refine (based_yes b _ hb hb2).mono ?_; rintro e w' ⟨rfl, rfl⟩)
  refine (FormatUint_any b x _ _ hb hb2 hx hE).mono ?_
  rintro e w1 ⟨rfl, hw1⟩
  go_wp2_with fail
  refine (FormatUint_any b y _ _ hb hb2 hy (hE.on hw1)).mono ?_
  rintro e w2 ⟨rfl, hw2⟩
  have hB2 : Below w.heap.size w w2 := hw1.trans (hw2.mono hw1.size)
  clear hg
  have hsy := str_size b y
  go_wp2
  go_loop [7] (fun a => ∃ k : Nat, (k = 0 ∨ k + (digs b x).length ≤ (digs b y).length) ∧ a = .string (zs k b x)) (fun a => 64 - (strOf a).size)
  case atStart => exact ⟨0, .inl rfl, rfl⟩
  case round =>
    obtain ⟨kx, hkx, rfl⟩ := hrel
    have hsx := zs_size kx b x
    by_cases hlt : kx + (digs b x).length < (digs b y).length
    · have hc := zs_succ kx b x
      go_wp2
      go_round
      case rel => exact ⟨kx + 1, .inr (by omega), rfl⟩
      case measure => simp [strOf, zs_size]; omega
    · have hd1 : decide ((kx : Int) + ((digs b x).length : Int) < ((digs b y).length : Int)) = false := by simp; omega
      go_wp2
      clear hsy hd1
      go_loop [8] (fun a => ∃ k : Nat, (k = 0 ∨ k + (digs b y).length ≤ kx + (digs b x).length) ∧ a = .string (zs k b y)) (fun a => 64 - (strOf a).size)
      case atStart => exact ⟨0, .inl rfl, rfl⟩
      case round =>
        obtain ⟨ky, hky, rfl⟩ := hrel
        have hsy := zs_size ky b y
        by_cases hlt2 : ky + (digs b y).length < kx + (digs b x).length
        · have hc := zs_succ ky b y
          go_wp2
          go_round
          case rel => exact ⟨ky + 1, .inr (by omega), rfl⟩
          case measure => simp [strOf, zs_size]; omega
        · have hkk : kx = 0 ∨ ky = 0 := by omega
          have hll : (zd ky b y).length = (zd kx b x).length := by rw [zd_len, zd_len]; omega
          have hn : (zd kx b x).length ≤ 64 := by rw [zd_len]; omega
          have hn0 : 1 ≤ (zd kx b x).length := by rw [zd_len]; have := digs_pos b x; omega
          have gA := zs_get kx b x
          have gB := zs_get ky b y
          have bA := zd_bd hb kx x
          have bB := zd_bd hb ky y
          have fin := fun R c => Inv.fin (x := x) (y := y) (kx := kx) (ky := ky) hb (R := R) (c := c)
          rw [← zd_len] at hsx hsy
          have sA : (zs kx b x).size = (zd kx b x).length := hsx
          have sB : (zs ky b y).size = (zd kx b x).length := by rw [hsy, hll]
          have GA := Lib.hid gA
          have GB := Lib.hid gB
          have BA := Lib.hid bA
          have BB := Lib.hid bB
          have FIN := Lib.hid fin
          have HLL := Lib.hid hll
          clear gA gB bA bB fin hll hsx hsy hlt hlt2 hkx hky l1 l2
          go_wp2
          go_loopw [9, 10, 11, 12] (fun out vc vi _ wr => ∃ (t c : Nat) (R : List Nat), vi = .int .i64 ((t : Int) - 1) ∧ t ≤ (zd kx b x).length ∧ vc = .int .i64 c ∧ c ≤ 1 ∧ out = .string (bs (R.map dch)) ∧ Hid (Inv b (zd kx b x) (zd ky b y) t R c) ∧ Below w.heap.size w wr) (fun _ _ vi _ _ => (intOf vi + 1).toNat)
          case atStart => exact ⟨_, 0, [], by go_num, Nat.le_refl _, rfl, by omega, rfl, Inv.start b _ _ HLL.out, hB2⟩
          case round =>
            obtain ⟨t, c, R, rfl, ht, rfl, hc, rfl, HI, hBr⟩ := hrel
            by_cases ht0 : 1 ≤ t
            · obtain ⟨t, rfl⟩ : ∃ t', t = t' + 1 := ⟨t - 1, by omega⟩
              have hltB : t < (zd ky b y).length := by rw [HLL.out]; omega
              have ba := BA.out _ (List.getElem_mem (show t < (zd kx b x).length by omega))
              have bb := BB.out _ (List.getElem_mem hltB)
              have iA : t < (zs kx b x).size := by omega
              have iB : t < (zs ky b y).size := by omega
              have da : dval ((zs kx b x)[t]'iA) = ((zd kx b x)[t]'(by omega) : Int) := by rw [GA.out t iA, dval_dch (by omega)]
              have db : dval ((zs ky b y)[t]'iB) = ((zd ky b y)[t]'hltB : Int) := by rw [GB.out t iB, dval_dch (by omega)]
              have HS := Lib.hid (HI.out.step hb (by omega) hltB HLL.out ba bb)
              generalize (zd kx b x)[t]'(by omega) = da' at da ba HS
              generalize (zd ky b y)[t]'hltB = db' at db bb HS
              obtain ⟨M, hM⟩ : ∃ M : Nat, M = da' + db' := ⟨_, rfl⟩
              obtain ⟨N, hN⟩ : ∃ N : Nat, N = da' + db' + c := ⟨_, rfl⟩
              have wM : IntKind.i64.wrap ((da' : Int) + (db' : Int)) = (M : Int) := by rw [hM, IntWalk.i64_in _ (by omega)]; omega
              have wN : IntKind.i64.wrap ((M : Int) + (c : Int)) = (N : Int) := by rw [hM, hN, IntWalk.i64_in _ (by omega)]; omega
              have hNb : N < 2 * b := by omega
              rw [← hN] at HS
              clear hN hM
              obtain ⟨q, r, hq, hr, hrb, hq1, f1, f2, f3⟩ := step_facts N b hb hNb hb2
              rw [show ((t + 1 : Nat) : Int) - 1 = (t : Int) by omega]
              rw [← hq, ← hr] at HS
              have hR := str_digit hrb
              have HRQ := Lib.hid (And.intro hq hr)
              clear hq hr
              have jA : (t : Int) < ((zs kx b x).size : Int) := by omega
              have jB : (t : Int) < ((zs ky b y).size : Int) := by omega
              have j0 : (0 : Int) ≤ (t : Int) := by omega
              have SAB := Lib.hid (And.intro sA sB)
              go_wp2
              clear sA sB
              go_quiet ((go_at_call 12; exact quiet_left (Digit_any _ _)))
              clear wM wN da db
              have z1 : (bs [dch r]).size ≤ 1 := by rw [bs_size]; simp
              have z2 : (bs (R.map dch)).size ≤ 64 := by rw [bs_size, List.length_map]; have := HI.out.len; omega
              go_wp2_with (go_at_call 13; refine (Text_any b r _ hb hb2 (by omega)).mono ?_; rintro e w3 ⟨rfl, hw3⟩)
              refine ⟨⟨t, q, r :: R, rfl, by omega, rfl, hq1, ?_, HS.out, (below_drewN hBr _).trans (hw3.mono (below_drewN hBr _).size)⟩, ?_⟩
              · rw [bs_append]; rfl
              · simp [intOf]
            · obtain rfl : t = 0 := by omega
              rw [show ((0 : Nat) : Int) - 1 = -1 by omega]
              have hfin := FIN.out R c HI.out HLL.out hkk
              have HF := Lib.hid hfin
              have z2 : (bs (R.map dch)).size ≤ 64 := by rw [bs_size, List.length_map]; have := HI.out.len; omega
              clear hfin
              by_cases hc0 : c = 0
              · subst hc0
                rw [show ((0 : Nat) : Int) = 0 from rfl]
                go_wp2_with (go_at_call 11; refine (FormatUint_of _ b (x + y) _ (by omega) _ hb hb2 hxy (hE.on hBr)).mono ?_; rintro e w3 ⟨rfl, hw3⟩)
                go_ret
                refine ⟨?_, hBr.trans (hw3.mono hBr.size)⟩
                show Ending.returned (Value.bool _) = _
                rw [str_eq (HF.out.trans (by simp))]
              · obtain rfl : c = 1 := by omega
                rw [show ((1 : Nat) : Int) = 1 from rfl]
                go_wp2_with (go_at_call 11; refine (FormatUint_of _ b (x + y) _ (by omega) _ hb hb2 hxy (hE.on hBr)).mono ?_; rintro e w3 ⟨rfl, hw3⟩)
                go_ret
                refine ⟨?_, hBr.trans (hw3.mono hBr.size)⟩
                show Ending.returned (Value.bool _) = _
                rw [str_bs_eq (HF.out.trans (by simp))]

theorem walk (x : Int) (wx : (Lit.int .u64 x).wf = true) (y : Int) (wy : (Lit.int .u64 y).wf = true) (b : Int) (wb : (Lit.int .i64 b).wf = true) (w : World) (hE : Env w.heap.size w) :
    Calls Tryd.prog 8 #[.int .u64 x, .int .u64 y, .int .i64 b] w fun e w' => e = .returned (.bool true) ∧ Below w.heap.size w w' := by
  obtain ⟨x, rfl, hx⟩ := wf_u64 wx
  obtain ⟨y, rfl, hy⟩ := wf_u64 wy
  by_cases hb : 2 ≤ b ∧ b ≤ 36
  · obtain ⟨b, rfl⟩ : ∃ n : Nat, b = n := ⟨b.toNat, by omega⟩
    by_cases hxy : x + y < 18446744073709551616
    · exact walkOf x y b hx hy hxy (by omega) (by omega) w hE
    · have hg : decide (18446744073709551615 - (x : Int) < (y : Int)) = true := by simp; omega
      go_enter Tryd.func8, Tryd.ntmps8
      go_wp2_with (go_at_call 10; refine (based_yes b _ (by omega) (by omega)).mono ?_; rintro e w' ⟨rfl, rfl⟩)
      go_ret
      exact ⟨rfl, Below.refl _ _⟩
  · go_enter Tryd.func8, Tryd.ntmps8
    go_wp2_with (go_at_call 10; refine (based_no b _ hb).mono ?_; rintro e w' ⟨rfl, rfl⟩)
    go_ret
    exact ⟨rfl, Below.refl _ _⟩
end fnSum
namespace fnSum
open Go.ChangeShapes Go.WideShapes Go.ChangeAt Go.RowKit
set_option maxRecDepth 100000 in
theorem contract (H : Type) (enc : TypeId × Value → H) (W : World) (base : Nat) (args : Array Value) (ds gs : List (DataW H)) (before : List MemPlace)
    (hval : ∀ (j : Nat) t v, Tryd.f8.params[j]? = some t → args[j]? = some v → Value.okWide Tryd.prog W .any base t v)
    (hW : DataW.Whole enc Tryd.prog Tryd.f8.params.toList Rows.fnSumSpec.vars false W args.toList ds gs before) (hL : laidMetH Tryd.prog Rows.fnSumRow.laid W) :
    Calls Tryd.prog 8 args W fun e W' => ∃ v, e = .returned v ∧ Rows.fnSumSpec.post enc Tryd.prog Tryd.f8 false true false false W args v W' := by
  have hW' := hW
  obtain ⟨p, q, hA0, hV, rfl, hfz, hnd⟩ := hW
  have hA : DataW.TrodAll enc Tryd.prog W 0 (fun _ => true) true Tryd.f8.params.toList args.toList ds p := hA0
  rw [Tryd.params8] at hA hval
  obtain ⟨v0, vs0, d0, ds0, p0, q0, hargs, rfl, rfl, h0, r0⟩ := trodAll_cons hA
  obtain ⟨v1, vs1, d1, ds1, p1, q1, rfl, rfl, rfl, h1, r1⟩ := trodAll_cons r0
  obtain ⟨v2, vs2, d2, ds2, p2, q2, rfl, rfl, rfl, h2, r2⟩ := trodAll_cons r1
  obtain ⟨rfl, rfl, rfl⟩ := trodAll_nil r2
  obtain rfl : args = #[v0, v1, v2] := by cases args; simp_all
  obtain ⟨rfl, rfl⟩ := trodVars_none hV
  obtain ⟨x0, rfl, rfl, rfl, w0⟩ := open_int Tryd.underlying22 (hval 0 22 v0 rfl rfl) h0
  obtain ⟨x1, rfl, rfl, rfl, w1⟩ := open_int Tryd.underlying22 (hval 1 22 v1 rfl rfl) h1
  obtain ⟨x2, rfl, rfl, rfl, w2⟩ := open_int Tryd.underlying3 (hval 2 3 v2 rfl rfl) h2
  clear hA0
  simp only [List.append_nil] at hW'
  refine (walk x0 w0 x1 w1 x2 w2 W (env_of hL)).mono fun e W' ⟨he, hg⟩ => ?_
  subst he
  refine ⟨_, rfl, _, _, _, [], [], [], hW', ?_, ?_, rfl, hg.frame _, fun h => by cases h⟩
  · exact trodAll_cons_mk (shut_bool Tryd.underlying4 _) trodAll_mk0
  · exact trodAll_cons_mk (shut_int Tryd.underlying22 w0) (trodAll_cons_mk (shut_int Tryd.underlying22 w1) (trodAll_cons_mk (shut_int Tryd.underlying3 w2) (trodAll_mk0)))

theorem laid_met (os : Os) : laidMet Tryd.prog Rows.fnSumRow.laid ((laidWorld os).forCall (fun _ _ => 0) ⟨#[], #[.int .u64 0, .int .u64 0, .int .i64 0], []⟩).memory :=
  laidMet_of_run' 8 (by kernel_rfl) (by kernel_rfl)
theorem reads (os : Os) {H : Type} (enc : TypeId × Value → H) : ∃ places, DataW.whole enc Tryd.prog ((laidWorld os).forCall (fun _ _ => 0) ⟨#[], #[.int .u64 0, .int .u64 0, .int .i64 0], []⟩).memory Tryd.f8.params.toList Rows.fnSumSpec.vars false #[(.int .u64 0 : Value), (.int .u64 0 : Value), (.int .i64 0 : Value)].toList 8 = some ([.lit (.int .u64 0), .lit (.int .u64 0), .lit (.int .i64 0)], [], places) :=
  ⟨[], by kernel_rfl⟩

set_option maxRecDepth 100000 in
theorem lifted (os : Os) (started : os.Started) (H : Type) (enc : TypeId × Value → H) (F : Stop.Interp) :
    ReturnsInHanded {} Tryd.checked os 8 .any ((OpenSpec.ofChange Rows.fnSumSpec).preRow enc Tryd.prog Tryd.f8 Rows.fnSumRow.domain false Rows.fnSumRow.laid) (((OpenSpec.ofChange Rows.fnSumSpec).at F).post enc Tryd.prog Tryd.f8 false true false false) := by
  obtain ⟨places, hx⟩ := reads os enc
  refine returnsInHanded_of_row (C := Tryd.checked) (s := OpenSpec.ofChange Rows.fnSumSpec) ownKnobs started (by kernel_rfl) Tryd.func8
    (witness_row_at (enc := enc) (C := Tryd.checked) false (laidWorld os) #[.int .u64 0, .int .u64 0, .int .i64 0] rfl (by kernel_rfl) (by kernel_rfl) (by kernel_rfl)
      (OpenSpec.preRow_of_cond 8 hx (by kernel_rfl) (fun k hk => by cases hk) (by kernel_rfl) (laid_met os))) ?_
  intro W base args ds gs before hval hW _ _ _ hL _ _
  exact contract H enc W base args ds gs before hval hW hL

theorem said : Rows.FnSumSaid :=
  OpenClaim.holds_of_cond 8 Tryd.f8 rfl rfl rfl rfl rfl rfl rfl ⟨rfl, rfl, rfl, rfl, rfl⟩ rfl rfl rfl rfl rfl (by kernel_rfl) Tryd.func8 (by kernel_rfl)
    (of_decide_eq_true (by kernel_rfl)) (by unfold Func.isWrapper; first | (rw [if_pos (by decide +kernel)]; kernel_rfl) | (rw [if_neg (by decide +kernel)]; exact ⟨rfl, rfl⟩))
    (fun os started H enc _ F => by rw [OpenClaim.pre_eq_preRow]; exact lifted os started H enc F)

theorem plain (f : FuncId) (fn : Func) (hf : Tryd.pinned.checked.prog.funcNamed "loop.example/lib-g01429/laws.FnSum" = some f) (hfn : Tryd.pinned.checked.prog.funcs[f]? = some fn) :
    false = Tryd.pinned.checked.prog.looks [] ∧ ∀ (j : Nat) t, fn.params[j]? = some t → Tryd.pinned.checked.prog.wantsStandIn t = false := by
  obtain rfl : f = 8 := Option.some.inj ((show Tryd.prog.funcNamed "loop.example/lib-g01429/laws.FnSum" = some 8 by kernel_rfl).symm.trans hf) |>.symm
  obtain rfl : fn = Tryd.f8 := (Option.some.inj (Tryd.func8.symm.trans hfn)).symm
  refine ⟨by kernel_rfl, fun j t ht => ?_⟩
  rw [Tryd.params8] at ht
  have hm := Array.mem_of_getElem? ht
  simp only [List.mem_toArray, List.mem_cons, List.not_mem_nil, or_false] at hm
  rcases hm with rfl | rfl | rfl
  · exact (show Tryd.prog.wantsStandIn 22 = false by kernel_rfl)
  · exact (show Tryd.prog.wantsStandIn 22 = false by kernel_rfl)
  · exact (show Tryd.prog.wantsStandIn 3 = false by kernel_rfl)

/-- THE CARD. -/
theorem card : Rows.FnSumCardSaid :=
  Claim7.holds_tied_plain_at .later [] _ _ _ _ said (fun _ h => by cases h) (by kernel_rfl) (fun _ h => by cases h) fnSum_row_tie rfl ⟨rfl, rfl⟩ (by kernel_rfl) rfl plain (by kernel_rfl)
end fnSum
end Go.Proofs.YtjcejkenjmkinaaDoor
