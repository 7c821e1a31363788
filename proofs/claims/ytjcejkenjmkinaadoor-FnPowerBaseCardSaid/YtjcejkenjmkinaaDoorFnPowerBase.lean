/- FnPowerBase returns true for all numbers, bases and powers: each digit of a number in a power of a base is as many digits in this base, from the right, with zeros ahead in front. Conditions: none beyond the card's own. -/
import Derived.Test.YtjcejkenjmkinaaDoorText
namespace Go.Proofs.YtjcejkenjmkinaaDoor
open Go.RowKit
namespace fnPowerBase

/-- What holds when the first a digits have been read in groups: R is what they give. -/
structure Inv (b P : Nat) (A : List Nat) (a : Nat) (R : List Nat) : Prop where
  le : a ≤ A.length
  bd : ∀ d ∈ R, d < P
  eq : val P R = val b (A.take a)

theorem Inv.start (b P : Nat) (A : List Nat) : Inv b P A 0 [] := ⟨by omega, by simp, by simp [val]⟩
theorem Inv.step {b P k : Nat} {A : List Nat} {a : Nat} {R : List Nat} (h : Inv b P A a R) (hP : P = b ^ k) (ha : a + k ≤ A.length) (hbd : ∀ d ∈ A, d < b) :
    Inv b P A (a + k) (R ++ [val b ((A.drop a).take k)]) := by
  obtain ⟨h1, h2, h3⟩ := h
  have hl : ((A.drop a).take k).length = k := by simp; omega
  refine ⟨ha, ?_, ?_⟩
  · intro d hd
    rcases List.mem_append.1 hd with h | h
    · exact h2 d h
    · simp only [List.mem_singleton] at h
      subst h
      have := val_lt (b := b) ((A.drop a).take k) (fun d hd => hbd d (List.mem_of_mem_drop (List.mem_of_mem_take hd)))
      rw [hl] at this
      omega
  · rw [val_snoc, h3, List.take_add, val_append, hl, hP]

theorem Inv.fin {b P k x m c : Nat} {R : List Nat} (hb : 2 ≤ b) (hk : 1 ≤ k) (hP : P = b ^ k) (h : Inv b P (zd m b x) (zd m b x).length R) (hm : m < k) (hc : (zd m b x).length = k * c) (hR : R.length = c) :
    digs P x = R := by
  obtain ⟨h1, h2, h3⟩ := h
  rw [List.take_length, val_zd hb] at h3
  have p1 := digs_pos b x
  rw [zd_len] at hc
  have hP2 : 2 ≤ P := by
    rw [hP]
    have : b ^ 1 ≤ b ^ k := Nat.pow_le_pow_right (by omega) hk
    simp at this; omega
  have hc1 : 1 ≤ c := by
    cases c with
    | zero => rw [Nat.mul_zero] at hc; omega
    | succ c => omega
  refine digs_of hP2 (norm_of_ge (fun e => by subst e; simp at hR; omega) h2 (fun hr => ?_)) h3
  rw [h3, hR, hP, ← Nat.pow_mul]
  obtain ⟨c', rfl⟩ : ∃ c', c = c' + 1 := ⟨c - 1, by omega⟩
  rw [Nat.mul_add, Nat.mul_one] at hc
  have hkc : k * 1 ≤ k * c' := Nat.mul_le_mul_left _ (by omega)
  have h5 := digs_ge_pow hb x (by omega)
  refine Nat.le_trans (Nat.pow_le_pow_right (by omega) ?_) h5
  simp
  omega

theorem pad_lt (L k m : Nat) (h1 : 1 ≤ k) (h5 : k ≤ 5) (hm : m ≤ (k - L % k) % k) (hne : (m + L) % k ≠ 0) : m + 1 ≤ (k - L % k) % k := by
  obtain rfl | rfl | rfl | rfl | rfl : k = 1 ∨ k = 2 ∨ k = 3 ∨ k = 4 ∨ k = 5 := by omega
  all_goals omega
theorem pad_top (L k : Nat) (h1 : 1 ≤ k) : (k - L % k) % k < k := Nat.mod_lt _ (by omega)

theorem first_of (q d : Nat) {b : Nat} (hq : q ≤ 36 * 36) (hd : d < b) (hb : b ≤ 36) : Value.int .i64 (wrap64 ((q : Int) + (d : Int))) = Value.int .i64 ((q + d : Nat) : Int) := by
  rw [IntWalk.wrap64_in _ (by omega)]
  rfl
theorem val_group {b : Nat} (A : List Nat) (a i : Nat) (h : a + i < A.length) : val b ((A.drop a).take (i + 1)) = val b ((A.drop a).take i) * b + A[a + i] := by
  rw [List.take_succ_eq_append_getElem (by simp; omega), val_snoc, List.getElem_drop]
theorem group_lt {b : Nat} (A : List Nat) (a i j : Nat) (h : ∀ d ∈ A, d < b) (hb : 2 ≤ b) (hij : i ≤ j) : val b ((A.drop a).take i) < b ^ j := by
  have h1 := val_lt (b := b) ((A.drop a).take i) (fun d hd => h d (List.mem_of_mem_drop (List.mem_of_mem_take hd)))
  have h2 : ((A.drop a).take i).length ≤ j := by rw [List.length_take]; omega
  have h3 : b ^ ((A.drop a).take i).length ≤ b ^ j := Nat.pow_le_pow_right (by omega) h2
  omega
theorem group_step (N j c a i : Nat) (hj : 1 ≤ j) (hN : N = j * c) (ha : a = j * i) : i ≤ a ∧ (a < N → a + j ≤ N) ∧ (a = N → i = c) := by
  subst hN ha
  refine ⟨Nat.le_mul_of_pos_left _ hj, fun h => ?_, fun h => Nat.eq_of_mul_eq_mul_left hj h⟩
  have h1 : i < c := Nat.lt_of_mul_lt_mul_left h
  have h2 : j * (i + 1) ≤ j * c := Nat.mul_le_mul_left _ h1
  rw [Nat.mul_add, Nat.mul_one] at h2
  exact h2
theorem str_digit {b d : Nat} (h : d < b) : str b d = bs [dch d] := by rw [str_bs, text, digs_lt h]; rfl
theorem str_eq {b u : Nat} {l : List Nat} (h : digs b u = l) : ((str b u).toList == (bs (l.map dch)).toList) = true := by
  rw [str_bs, bs_toList, bs_toList, text, h]; simp
/-- The string in a slot, for a loop's measure. -/
def strOf : Value → ByteArray | .string s => s | _ => ByteArray.empty

theorem mul_facts (v b B : Nat) (hv : v ≤ B) (hb : b ≤ 36) (hB : B ≤ 100000000) : ∃ p : Nat, p = v * b ∧ p ≤ B * 36 ∧ wrap64 ((v : Int) * (b : Int)) = (p : Int) := by
  have h0 : v * b ≤ B * 36 := Nat.mul_le_mul hv hb
  refine ⟨v * b, rfl, h0, ?_⟩
  rw [← Int.natCast_mul, IntWalk.wrap64_in]
  omega
theorem pow_le (b j : Nat) (hb : b ≤ 36) (hj : j ≤ 5) : b ^ j ≤ 60466176 := by
  have h1 : b ^ j ≤ 36 ^ j := Nat.pow_le_pow_left hb j
  have h2 : 36 ^ j ≤ 36 ^ 5 := Nat.pow_le_pow_right (by decide) hj
  have h3 : 36 ^ 5 = 60466176 := by decide
  omega

set_option maxHeartbeats 4000000 in
set_option maxRecDepth 100000 in
theorem walkOf (x b k : Nat) (hx : x < 18446744073709551616) (hb : 2 ≤ b) (hb2 : b ≤ 36) (hk1 : 1 ≤ k) (hk5 : k ≤ 5) (w : World) (hE : Env w.heap.size w) :
    Calls Tryd.prog 7 #[.int .u64 x, .int .i64 b, .int .i64 k] w fun e w' => e = .returned (.bool true) ∧ Below w.heap.size w w' := by
  have l1 := digs_len hb 63 x (by omega)
  have l0 := digs_pos b x
  have g1 : decide ((k : Int) < 1) = false := by simp; omega
  have g2 : decide (5 < (k : Int)) = false := by simp; omega
  go_enter Tryd.func7, Tryd.ntmps7
  go_wp2_with (go_at_call 10; refine (based_yes b _ hb hb2).mono ?_; rintro e w' ⟨rfl, rfl⟩)
  clear g1 g2
  go_loop [7, 25] (fun vp vj => ∃ j p : Nat, j ≤ k ∧ vj = .int .i64 j ∧ vp = .int .i64 p ∧ p ≤ 60466176 ∧ Hid (p = b ^ j)) (fun _ vj => k - (intOf vj).toNat)
  case atStart => exact ⟨0, 1, by omega, rfl, rfl, by omega, rfl⟩
  case round =>
    obtain ⟨j, p, hj, rfl, rfl, hp, HP⟩ := hrel
    by_cases hlt : j < k
    · obtain ⟨q, hq, hq1, e1⟩ := mul_facts p b 60466176 hp hb2 (by omega)
      have HQ := Lib.hid hq
      clear hq
      go_wp2
      go_round
      case rel =>
        have h1 : q = b ^ (j + 1) := by rw [HQ.out, HP.out, Nat.pow_succ]
        exact ⟨j + 1, q, by omega, by go_num, by first | rfl | rw [e1], by rw [h1]; exact pow_le b _ hb2 (by omega), h1⟩
      case measure => simp [intOf]; omega
    · obtain rfl : j = k := by omega
      by_cases hp36 : 36 < p
      · go_wp2
        go_ret
        exact ⟨rfl, Below.refl _ _⟩
      · have hp36' : p ≤ 36 := by omega
        have hp2 : 2 ≤ p := by
          have h1 : b ^ 1 ≤ b ^ j := Nat.pow_le_pow_right (by omega) hk1
          have h2 := HP.out
          simp at h1; omega
        have g36 : decide (36 < (p : Int)) = false := by simp; omega
        go_wp2_with (go_at_call 11; refine (FormatUint_any b x _ _ hb hb2 hx hE).mono ?_; rintro e w1 ⟨rfl, hw1⟩)
        clear g36 hlt hj hp
        go_loop [8] (fun a => ∃ m : Nat, m ≤ (j - (digs b x).length % j) % j ∧ a = .string (zs m b x)) (fun a => 70 - (strOf a).size)
        case atStart => exact ⟨0, Nat.zero_le _, rfl⟩
        case round =>
          obtain ⟨m, hm, rfl⟩ := hrel
          have hmt := pad_top (digs b x).length j hk1
          have hsz := zs_size m b x
          have hmod : ((m : Int) + ((digs b x).length : Int)) % (j : Int) = (((m + (digs b x).length) % j : Nat) : Int) := by rw [Int.natCast_emod, Int.natCast_add]
          have hpl := pad_lt (digs b x).length j m hk1 hk5 hm
          generalize hrr : (m + (digs b x).length) % j = rr at hmod hpl
          have HRR := Lib.hid hrr
          have HPL := Lib.hid hpl
          have hm5 : m < j := by omega
          have HM := Lib.hid hm
          clear hrr hpl hm
          by_cases hne : rr = 0
          · subst hne
            rw [show (((0 : Nat) : Int)) = 0 from rfl] at hmod
            obtain ⟨c, hc⟩ : ∃ c, (zd m b x).length = j * c := ⟨(m + (digs b x).length) / j, by
              rw [zd_len]
              have := Nat.div_add_mod (m + (digs b x).length) j
              rw [HRR.out] at this
              omega⟩
            have hN : (zd m b x).length ≤ 70 := by rw [zd_len]; omega
            have hN1 : 1 ≤ (zd m b x).length := by rw [zd_len]; omega
            have gA := zs_get m b x
            have bA := zd_bd hb m x
            have sA : (zs m b x).size = (zd m b x).length := by rw [zs_size, zd_len]
            have hstep := fun a i => group_step (zd m b x).length j c a i hk1 hc
            have GA := Lib.hid gA
            have BA := Lib.hid bA
            have HC := Lib.hid hc
            have HST := Lib.hid hstep
            have hfin := fun R (h : Inv b p (zd m b x) (zd m b x).length R) => Inv.fin (x := x) (m := m) hb hk1 HP.out h hm5 hc
            have HFIN := Lib.hid hfin
            clear gA bA hc hstep hfin hmt
            have hzl := zd_len m b x
            have HZL := Lib.hid hzl
            clear hzl
            go_wp2
            clear hsz hmod
            go_loopw [9, 10, 11, 12] (fun want va _ _ wr => ∃ (a : Nat) (R : List Nat), va = .int .i64 a ∧ a ≤ (zd m b x).length ∧ want = .string (bs (R.map dch)) ∧ Hid (a = j * R.length) ∧ Hid (Inv b p (zd m b x) a R) ∧ Below w.heap.size w wr) (fun _ va _ _ _ => 70 - (intOf va).toNat)
            case atStart => exact ⟨0, [], rfl, by omega, rfl, by simp [Hid], Inv.start _ _ _, hw1⟩
            case round =>
              obtain ⟨a, R, rfl, ha, rfl, HA, HI, hBr⟩ := hrel
              have hst := HST.out a R.length HA.out
              have z2 : (bs (R.map dch)).size ≤ 70 := by rw [bs_size, List.length_map]; have := hst.1; omega
              by_cases hlt : a < (zd m b x).length
              · have haj := hst.2.1 hlt
                have hlt2 : a < (zs m b x).size := by omega
                have HST2 := Lib.hid hst
                clear hst
                go_wp2
                obtain ⟨wo, hwo⟩ : ∃ wo : World, wo = wr := ⟨_, rfl⟩
                clear hwo
                go_loop [11, 12, 51] (fun vv _ vi => ∃ i v : Nat, i ≤ j ∧ vi = .int .i64 i ∧ vv = .int .i64 v ∧ v < p ∧ Hid (v = val b (((zd m b x).drop a).take i))) (fun _ _ vi => j - (intOf vi).toNat)
                case atStart => exact ⟨0, 0, by omega, rfl, rfl, by omega, by simp [Hid, val]⟩
                case round =>
                  obtain ⟨i, v, hi, rfl, rfl, hv, HV⟩ := hrel
                  by_cases hij : i < j
                  · have hai : a + i < (zs m b x).size := by omega
                    have hai2 : a + i < (zd m b x).length := by omega
                    have ba := BA.out _ (List.getElem_mem hai2)
                    have da : dval ((zs m b x)[a + i]'hai) = ((zd m b x)[a + i]'hai2 : Int) := by rw [GA.out _ hai, dval_dch (by omega)]
                    have hvs := val_group (b := b) (zd m b x) a i hai2
                    have hvl := group_lt (b := b) (zd m b x) a (i + 1) j BA.out hb (by omega)
                    rw [← HP.out] at hvl
                    generalize (zd m b x)[a + i]'hai2 = d at da ba hvs
                    obtain ⟨q, hq, hq1, e1⟩ := mul_facts v b 36 (by omega) hb2 (by omega)
                    have HVS := Lib.hid hvs
                    have HVL := Lib.hid hvl
                    have HQ := Lib.hid hq
                    clear hvs hvl hq
                    go_wp2_with (go_at_call 12; refine (Digit_any _ _).mono ?_; rintro e w' ⟨rfl, rfl⟩)
                    go_round
                    case rel =>
                      have h1 : q + d = val b (((zd m b x).drop a).take (i + 1)) := by rw [HVS.out, ← HV.out, HQ.out]
                      exact ⟨i + 1, q + d, hij, by go_num, first_of q d hq1 ba hb2, by rw [h1]; exact HVL.out, h1⟩
                    case measure => simp [intOf]; omega
                  · obtain rfl : i = j := by omega
                    have hR := str_digit hv
                    have z1 : (bs [dch v]).size ≤ 1 := by rw [bs_size]; simp
                    have hnew := HI.out.step HP.out haj BA.out
                    rw [← HV.out] at hnew
                    have HNEW := Lib.hid hnew
                    clear hnew
                    go_wp2_with (go_at_call 13; refine (Text_any p v _ hp2 hp36' (by omega)).mono ?_; rintro e w3 ⟨rfl, hw3⟩)
                    refine ⟨⟨a + i, R ++ [v], by go_num, by omega, ?_, ?_, HNEW.out, hBr.trans (hw3.mono hBr.size)⟩, ?_⟩
                    · rw [bs_append, List.map_append]; rfl
                    · show _ = _
                      rw [HA.out, List.length_append, Nat.mul_add]; simp
                    · simp [intOf]; omega
              · obtain rfl : a = (zd m b x).length := by omega
                have hrc := hst.2.2 rfl
                have hdg := HFIN.out R HI.out hrc
                have hne : (bs (R.map dch)).toList.isEmpty = false := by
                  have hs := str_ne p x
                  rw [str_bs, text, hdg] at hs
                  exact hs
                have hne2 : (!(bs (R.map dch)).toList.isEmpty) = true := by rw [hne]; rfl
                have hse := str_eq hdg
                clear hst hrc hdg
                go_wp2_with (go_at_call 11; refine (FormatUint_any p x _ _ hp2 hp36' hx (hE.on hBr)).mono ?_; rintro e w3 ⟨rfl, hw3⟩)
                go_ret
                exact ⟨rfl, hBr.trans (hw3.mono hBr.size)⟩
          · have hq : ((rr : Int) != 0) = true := by simp; omega
            have hc := zs_succ m b x
            go_wp2
            go_round
            case rel => exact ⟨m + 1, HPL.out hne, rfl⟩
            case measure => simp [strOf, zs_size]; omega

theorem walk (x : Int) (wx : (Lit.int .u64 x).wf = true) (b : Int) (wb : (Lit.int .i64 b).wf = true) (k : Int) (wk : (Lit.int .i64 k).wf = true) (w : World) (hE : Env w.heap.size w) :
    Calls Tryd.prog 7 #[.int .u64 x, .int .i64 b, .int .i64 k] w fun e w' => e = .returned (.bool true) ∧ Below w.heap.size w w' := by
  obtain ⟨x, rfl, hx⟩ := wf_u64 wx
  by_cases hb : 2 ≤ b ∧ b ≤ 36
  · obtain ⟨b, rfl⟩ : ∃ n : Nat, b = n := ⟨b.toNat, by omega⟩
    by_cases hk : k < 1
    · have g1 : decide (k < 1) = true := by simpa using hk
      go_enter Tryd.func7, Tryd.ntmps7
      go_wp2_with (go_at_call 10; refine (based_yes b _ (by omega) (by omega)).mono ?_; rintro e w' ⟨rfl, rfl⟩)
      go_ret
      exact ⟨rfl, Below.refl _ _⟩
    · by_cases hk5 : 5 < k
      · have g1 : decide (k < 1) = false := by simpa using hk
        have g2 : decide (5 < k) = true := by simpa using hk5
        go_enter Tryd.func7, Tryd.ntmps7
        go_wp2_with (go_at_call 10; refine (based_yes b _ (by omega) (by omega)).mono ?_; rintro e w' ⟨rfl, rfl⟩)
        go_ret
        exact ⟨rfl, Below.refl _ _⟩
      · obtain ⟨k, rfl⟩ : ∃ n : Nat, k = n := ⟨k.toNat, by omega⟩
        exact walkOf x b k hx (by omega) (by omega) (by omega) (by omega) w hE
  · go_enter Tryd.func7, Tryd.ntmps7
    go_wp2_with (go_at_call 10; refine (based_no b _ hb).mono ?_; rintro e w' ⟨rfl, rfl⟩)
    go_ret
    exact ⟨rfl, Below.refl _ _⟩
end fnPowerBase
namespace fnPowerBase
open Go.ChangeShapes Go.WideShapes Go.ChangeAt Go.RowKit
set_option maxRecDepth 100000 in
theorem contract (H : Type) (enc : TypeId × Value → H) (W : World) (base : Nat) (args : Array Value) (ds gs : List (DataW H)) (before : List MemPlace)
    (hval : ∀ (j : Nat) t v, Tryd.f7.params[j]? = some t → args[j]? = some v → Value.okWide Tryd.prog W .any base t v)
    (hW : DataW.Whole enc Tryd.prog Tryd.f7.params.toList Rows.fnPowerBaseSpec.vars false W args.toList ds gs before) (hL : laidMetH Tryd.prog Rows.fnPowerBaseRow.laid W) :
    Calls Tryd.prog 7 args W fun e W' => ∃ v, e = .returned v ∧ Rows.fnPowerBaseSpec.post enc Tryd.prog Tryd.f7 false true false false W args v W' := by
  have hW' := hW
  obtain ⟨p, q, hA0, hV, rfl, hfz, hnd⟩ := hW
  have hA : DataW.TrodAll enc Tryd.prog W 0 (fun _ => true) true Tryd.f7.params.toList args.toList ds p := hA0
  rw [Tryd.params7] at hA hval
  obtain ⟨v0, vs0, d0, ds0, p0, q0, hargs, rfl, rfl, h0, r0⟩ := trodAll_cons hA
  obtain ⟨v1, vs1, d1, ds1, p1, q1, rfl, rfl, rfl, h1, r1⟩ := trodAll_cons r0
  obtain ⟨v2, vs2, d2, ds2, p2, q2, rfl, rfl, rfl, h2, r2⟩ := trodAll_cons r1
  obtain ⟨rfl, rfl, rfl⟩ := trodAll_nil r2
  obtain rfl : args = #[v0, v1, v2] := by cases args; simp_all
  obtain ⟨rfl, rfl⟩ := trodVars_none hV
  obtain ⟨x0, rfl, rfl, rfl, w0⟩ := open_int Tryd.underlying22 (hval 0 22 v0 rfl rfl) h0
  obtain ⟨x1, rfl, rfl, rfl, w1⟩ := open_int Tryd.underlying3 (hval 1 3 v1 rfl rfl) h1
  obtain ⟨x2, rfl, rfl, rfl, w2⟩ := open_int Tryd.underlying3 (hval 2 3 v2 rfl rfl) h2
  clear hA0
  simp only [List.append_nil] at hW'
  refine (walk x0 w0 x1 w1 x2 w2 W (env_of hL)).mono fun e W' ⟨he, hg⟩ => ?_
  subst he
  refine ⟨_, rfl, _, _, _, [], [], [], hW', ?_, ?_, rfl, hg.frame _, fun h => by cases h⟩
  · exact trodAll_cons_mk (shut_bool Tryd.underlying4 _) trodAll_mk0
  · exact trodAll_cons_mk (shut_int Tryd.underlying22 w0) (trodAll_cons_mk (shut_int Tryd.underlying3 w1) (trodAll_cons_mk (shut_int Tryd.underlying3 w2) (trodAll_mk0)))

theorem laid_met (os : Os) : laidMet Tryd.prog Rows.fnPowerBaseRow.laid ((laidWorld os).forCall (fun _ _ => 0) ⟨#[], #[.int .u64 0, .int .i64 0, .int .i64 0], []⟩).memory :=
  laidMet_of_run' 8 (by kernel_rfl) (by kernel_rfl)
theorem reads (os : Os) {H : Type} (enc : TypeId × Value → H) : ∃ places, DataW.whole enc Tryd.prog ((laidWorld os).forCall (fun _ _ => 0) ⟨#[], #[.int .u64 0, .int .i64 0, .int .i64 0], []⟩).memory Tryd.f7.params.toList Rows.fnPowerBaseSpec.vars false #[(.int .u64 0 : Value), (.int .i64 0 : Value), (.int .i64 0 : Value)].toList 8 = some ([.lit (.int .u64 0), .lit (.int .i64 0), .lit (.int .i64 0)], [], places) :=
  ⟨[], by kernel_rfl⟩

set_option maxRecDepth 100000 in
theorem lifted (os : Os) (started : os.Started) (H : Type) (enc : TypeId × Value → H) (F : Stop.Interp) :
    ReturnsInHanded {} Tryd.checked os 7 .any ((OpenSpec.ofChange Rows.fnPowerBaseSpec).preRow enc Tryd.prog Tryd.f7 Rows.fnPowerBaseRow.domain false Rows.fnPowerBaseRow.laid) (((OpenSpec.ofChange Rows.fnPowerBaseSpec).at F).post enc Tryd.prog Tryd.f7 false true false false) := by
  obtain ⟨places, hx⟩ := reads os enc
  refine returnsInHanded_of_row (C := Tryd.checked) (s := OpenSpec.ofChange Rows.fnPowerBaseSpec) ownKnobs started (by kernel_rfl) Tryd.func7
    (witness_row_at (enc := enc) (C := Tryd.checked) false (laidWorld os) #[.int .u64 0, .int .i64 0, .int .i64 0] rfl (by kernel_rfl) (by kernel_rfl) (by kernel_rfl)
      (OpenSpec.preRow_of_cond 8 hx (by kernel_rfl) (fun k hk => by cases hk) (by kernel_rfl) (laid_met os))) ?_
  intro W base args ds gs before hval hW _ _ _ hL _ _
  exact contract H enc W base args ds gs before hval hW hL

theorem said : Rows.FnPowerBaseSaid :=
  OpenClaim.holds_of_cond 7 Tryd.f7 rfl rfl rfl rfl rfl rfl rfl ⟨rfl, rfl, rfl, rfl, rfl⟩ rfl rfl rfl rfl rfl (by kernel_rfl) Tryd.func7 (by kernel_rfl)
    (of_decide_eq_true (by kernel_rfl)) (by unfold Func.isWrapper; first | (rw [if_pos (by decide +kernel)]; kernel_rfl) | (rw [if_neg (by decide +kernel)]; exact ⟨rfl, rfl⟩))
    (fun os started H enc _ F => by rw [OpenClaim.pre_eq_preRow]; exact lifted os started H enc F)

theorem plain (f : FuncId) (fn : Func) (hf : Tryd.pinned.checked.prog.funcNamed "loop.example/lib-g01429/laws.FnPowerBase" = some f) (hfn : Tryd.pinned.checked.prog.funcs[f]? = some fn) :
    false = Tryd.pinned.checked.prog.looks [] ∧ ∀ (j : Nat) t, fn.params[j]? = some t → Tryd.pinned.checked.prog.wantsStandIn t = false := by
  obtain rfl : f = 7 := Option.some.inj ((show Tryd.prog.funcNamed "loop.example/lib-g01429/laws.FnPowerBase" = some 7 by kernel_rfl).symm.trans hf) |>.symm
  obtain rfl : fn = Tryd.f7 := (Option.some.inj (Tryd.func7.symm.trans hfn)).symm
  refine ⟨by kernel_rfl, fun j t ht => ?_⟩
  rw [Tryd.params7] at ht
  have hm := Array.mem_of_getElem? ht
  simp only [List.mem_toArray, List.mem_cons, List.not_mem_nil, or_false] at hm
  rcases hm with rfl | rfl | rfl
  · exact (show Tryd.prog.wantsStandIn 22 = false by kernel_rfl)
  · exact (show Tryd.prog.wantsStandIn 3 = false by kernel_rfl)
  · exact (show Tryd.prog.wantsStandIn 3 = false by kernel_rfl)

/-- THE CARD. -/
theorem card : Rows.FnPowerBaseCardSaid :=
  Claim7.holds_tied_plain_at .later [] _ _ _ _ said (fun _ h => by cases h) (by kernel_rfl) (fun _ h => by cases h) fnPowerBase_row_tie rfl ⟨rfl, rfl⟩ (by kernel_rfl) rfl plain (by kernel_rfl)
end fnPowerBase
end Go.Proofs.YtjcejkenjmkinaaDoor
