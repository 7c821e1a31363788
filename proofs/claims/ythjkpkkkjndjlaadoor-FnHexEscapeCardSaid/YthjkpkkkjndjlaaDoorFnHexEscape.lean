/- FnHexEscape returns true for every int32: a character from 128 on is quoted in ASCII by a backslash, u and four digits of its number in base 16, or U and eight, with zeros ahead. Conditions: none beyond the card's own. -/
import Derived.Test.YthjkpkkkjndjlaaDoorEnvN
import Derived.Test.YthjkpkkkjndjlaaDoorRune
namespace Go.Proofs.YthjkpkkkjndjlaaDoor
open Go.RowKit
namespace fnHexEscape

/-- The n last digits of k in base 16. -/
def hd (k : Nat) : Nat → List Nat
  | 0 => []
  | n + 1 => (k / 16 ^ n % 16) :: hd k n
theorem hd_len (k n : Nat) : (hd k n).length = n := by
  induction n with
  | zero => rfl
  | succ n ih => simp [hd, ih]
theorem hd_bd (k n : Nat) : ∀ d ∈ hd k n, d < 16 := by
  induction n with
  | zero => simp [hd]
  | succ n ih =>
    intro d hd'
    rcases List.mem_cons.1 hd' with rfl | h
    · exact Nat.mod_lt _ (by decide)
    · exact ih d h
theorem val_hd (k n : Nat) : val 16 (hd k n) = k % 16 ^ n := by
  induction n with
  | zero => simp [hd, val, Nat.mod_one]
  | succ n ih =>
    rw [hd, val_cons, hd_len, ih, Nat.pow_succ, Nat.mod_mul]
    rw [Nat.mul_comm]
    omega
theorem hd_zd {k n : Nat} (hl : (digs 16 k).length ≤ n) (hk : k < 16 ^ n) : hd k n = zd (n - (digs 16 k).length) 16 k := by
  refine val_inj (b := 16) _ _ ?_ (hd_bd k n) (zd_bd (by decide) _ _) ?_
  · rw [hd_len, zd_len]; omega
  · rw [val_hd, val_zd (by decide), Nat.mod_eq_of_lt hk]
theorem hex_dch {x : Nat} (h : x < 16) : Lib.hexDigit x = ((dch x).toNat : Int) := by
  rw [dch_toNat (by omega), Lib.hexDigit]
  split <;> simp
theorem hexDigits_hd (k n : Nat) : Lib.hexDigits k n = (hd k n).map fun d => ((dch d).toNat : Int) := by
  induction n with
  | zero => rfl
  | succ n ih => rw [Lib.hexDigits, hd, List.map_cons, ih, hex_dch (Nat.mod_lt _ (by decide))]
theorem strOf_hex (k n : Nat) : (Lib.hexDigits k n).map (fun z => UInt8.ofNat z.toNat) = (hd k n).map dch := by
  rw [hexDigits_hd, List.map_map]
  apply List.map_congr_left
  intro d _
  simp
theorem digs_le {k n : Nat} (hk : k < 16 ^ (n + 1)) : (digs 16 k).length ≤ n + 1 := by
  by_cases h : 2 ≤ (digs 16 k).length
  · have h1 := digs_ge_pow (b := 16) (by decide) k h
    have h2 : 16 ^ ((digs 16 k).length - 1) < 16 ^ (n + 1) := by omega
    have := (Nat.pow_lt_pow_iff_right (by decide : 1 < 16)).1 h2
    omega
  · omega

theorem fin4 (r : Int) (h0 : 0 ≤ r) (h : r < 65536) : (strOfNums (39 :: (escHi r ++ [39]))) = ((⟨#[39, 92]⟩ : ByteArray) ++ ⟨#[117]⟩) ++ zs (4 - (digs 16 r.toNat).length) 16 r.toNat ++ ⟨#[39]⟩ := by
  have e : hd r.toNat 4 = zd (4 - (digs 16 r.toNat).length) 16 r.toNat := hd_zd (digs_le (by omega)) (by omega)
  unfold escHi
  rw [if_pos h]
  show bs _ = (bs [39, 92] ++ bs [117]) ++ bs _ ++ bs [39]
  rw [bs_append, bs_append, bs_append]
  simp only [List.map_cons, List.map_append, List.cons_append, strOf_hex, e]
  rfl
theorem fin8 (r : Int) (h : ¬ r < 65536) (h1 : r ≤ 1114111) : (strOfNums (39 :: (escHi r ++ [39]))) = ((⟨#[39, 92]⟩ : ByteArray) ++ ⟨#[85]⟩) ++ zs (8 - (digs 16 r.toNat).length) 16 r.toNat ++ ⟨#[39]⟩ := by
  have e : hd r.toNat 8 = zd (8 - (digs 16 r.toNat).length) 16 r.toNat := hd_zd (digs_le (by omega)) (by omega)
  unfold escHi
  rw [if_neg h]
  show bs _ = (bs [39, 92] ++ bs [85]) ++ bs _ ++ bs [39]
  rw [bs_append, bs_append, bs_append]
  simp only [List.map_cons, List.map_append, List.cons_append, strOf_hex, e]
  rfl
/-- The string in a slot, for a loop's measure. -/
def strOf : Value → ByteArray | .string s => s | _ => ByteArray.empty
theorem str_ne16 (k : Nat) : (str 16 k).toList.isEmpty = false := by
  rw [str_bs, bs_toList]
  have h := digs_pos 16 k
  rw [← text_len] at h
  cases e : text 16 k with
  | nil => rw [e] at h; simp at h
  | cons a l => rfl

set_option maxHeartbeats 4000000 in
set_option maxRecDepth 100000 in
theorem walk_low (k : Nat) (h128 : 128 ≤ k) (h : k < 55296) (w : World) (hE : Env w.heap.size w) :
    Calls Tryd.prog 6 #[.int .i32 k] w fun e w' => e = .returned (.bool true) ∧ Below w.heap.size w w' := by
  have hv : Lib.validRune (k : Int) = true := by simp [Lib.validRune]; omega
  have hl : (digs 16 k).length ≤ 4 := digs_le (by omega)
  have hq := fun W => QuoteRune_hi (k : Int) W (by omega) hv
  rw [fin4 (k : Int) (by omega) (by omega), Int.toNat_natCast] at hq
  have hsz4 : (zs (4 - (digs 16 k).length) 16 k).size = 4 := by rw [zs_size]; omega
  obtain ⟨Z, hZ⟩ : ∃ Z, Z = zs (4 - (digs 16 k).length) 16 k := ⟨_, rfl⟩
  rw [← hZ] at hq hsz4
  have HQ := Lib.hid hq
  have HZ := Lib.hid hZ
  have hne := str_ne16 k
  clear hq hv hZ
  have g1 : decide ((k : Int) < 128) = false := by simp; omega
  have g2 : decide (1114111 < (k : Int)) = false := by simp; omega
  have g3 : decide (55296 ≤ (k : Int)) = false := by simp; omega
  have g5 : decide (65535 < (k : Int)) = false := by simp; omega
  have hwk : IntKind.u64.wrap (k : Int) = (k : Int) := by rw [IntKind.wrap_u64]; omega
  go_enter Tryd.func6, Tryd.ntmps6
  go_wp2_with (go_at_call 20; refine (FormatUint_of _ 16 k _ (by omega) _ (by decide) (by decide) (by omega) hE).mono ?_; rintro e w1 ⟨rfl, hw1⟩)
  clear hwk g1 g2
  go_loop [3] (fun a => ∃ m : Nat, m + (digs 16 k).length ≤ 4 ∧ a = .string (zs m 16 k)) (fun a => 64 - (strOf a).size)
  case atStart => exact ⟨0, by omega, rfl⟩
  case round =>
    obtain ⟨m, hm, rfl⟩ := hrel
    have hsz := zs_size m 16 k
    by_cases hlt : m + (digs 16 k).length < 4
    · have hc := zs_succ m 16 k
      go_wp2
      go_round
      case rel => exact ⟨m + 1, by omega, rfl⟩
      case measure => simp [strOf, zs_size]; omega
    · obtain rfl : m = 4 - (digs 16 k).length := by omega
      rw [← HZ.out]
      clear hsz hlt hm
      go_wp2_with (go_at_call 21; refine (HQ.out _).mono ?_; rintro e w2 ⟨rfl, hw2⟩)
      all_goals go_ret
      all_goals exact ⟨by first | rfl | simp, hw1.trans (hw2.mono hw1.size)⟩

set_option maxHeartbeats 4000000 in
set_option maxRecDepth 100000 in
theorem walk_mid (k : Nat) (h : 57343 < k) (h2 : k < 65536) (w : World) (hE : Env w.heap.size w) :
    Calls Tryd.prog 6 #[.int .i32 k] w fun e w' => e = .returned (.bool true) ∧ Below w.heap.size w w' := by
  have hv : Lib.validRune (k : Int) = true := by simp [Lib.validRune]; omega
  have hl : (digs 16 k).length ≤ 4 := digs_le (by omega)
  have hq := fun W => QuoteRune_hi (k : Int) W (by omega) hv
  rw [fin4 (k : Int) (by omega) (by omega), Int.toNat_natCast] at hq
  have hsz4 : (zs (4 - (digs 16 k).length) 16 k).size = 4 := by rw [zs_size]; omega
  obtain ⟨Z, hZ⟩ : ∃ Z, Z = zs (4 - (digs 16 k).length) 16 k := ⟨_, rfl⟩
  rw [← hZ] at hq hsz4
  have HQ := Lib.hid hq
  have HZ := Lib.hid hZ
  have hne := str_ne16 k
  clear hq hv hZ
  have g1 : decide ((k : Int) < 128) = false := by simp; omega
  have g2 : decide (1114111 < (k : Int)) = false := by simp; omega
  have g3 : decide (55296 ≤ (k : Int)) = true := by simp; omega
  have g4 : decide ((k : Int) ≤ 57343) = false := by simp; omega
  have g5 : decide (65535 < (k : Int)) = false := by simp; omega
  have hwk : IntKind.u64.wrap (k : Int) = (k : Int) := by rw [IntKind.wrap_u64]; omega
  go_enter Tryd.func6, Tryd.ntmps6
  go_wp2_with (go_at_call 20; refine (FormatUint_of _ 16 k _ (by omega) _ (by decide) (by decide) (by omega) hE).mono ?_; rintro e w1 ⟨rfl, hw1⟩)
  clear hwk g1 g2
  go_loop [3] (fun a => ∃ m : Nat, m + (digs 16 k).length ≤ 4 ∧ a = .string (zs m 16 k)) (fun a => 64 - (strOf a).size)
  case atStart => exact ⟨0, by omega, rfl⟩
  case round =>
    obtain ⟨m, hm, rfl⟩ := hrel
    have hsz := zs_size m 16 k
    by_cases hlt : m + (digs 16 k).length < 4
    · have hc := zs_succ m 16 k
      go_wp2
      go_round
      case rel => exact ⟨m + 1, by omega, rfl⟩
      case measure => simp [strOf, zs_size]; omega
    · obtain rfl : m = 4 - (digs 16 k).length := by omega
      rw [← HZ.out]
      clear hsz hlt hm
      go_wp2_with (go_at_call 21; refine (HQ.out _).mono ?_; rintro e w2 ⟨rfl, hw2⟩)
      all_goals go_ret
      all_goals exact ⟨by first | rfl | simp, hw1.trans (hw2.mono hw1.size)⟩

set_option maxHeartbeats 4000000 in
set_option maxRecDepth 100000 in
theorem walk_high (k : Nat) (h : 65535 < k) (h2 : k ≤ 1114111) (w : World) (hE : Env w.heap.size w) :
    Calls Tryd.prog 6 #[.int .i32 k] w fun e w' => e = .returned (.bool true) ∧ Below w.heap.size w w' := by
  have hv : Lib.validRune (k : Int) = true := by simp [Lib.validRune]; omega
  have hl : (digs 16 k).length ≤ 8 := digs_le (by omega)
  have hq := fun W => QuoteRune_hi (k : Int) W (by omega) hv
  rw [fin8 (k : Int) (by omega) (by omega), Int.toNat_natCast] at hq
  have hsz4 : (zs (8 - (digs 16 k).length) 16 k).size = 8 := by rw [zs_size]; omega
  obtain ⟨Z, hZ⟩ : ∃ Z, Z = zs (8 - (digs 16 k).length) 16 k := ⟨_, rfl⟩
  rw [← hZ] at hq hsz4
  have HQ := Lib.hid hq
  have HZ := Lib.hid hZ
  have hne := str_ne16 k
  clear hq hv hZ
  have g1 : decide ((k : Int) < 128) = false := by simp; omega
  have g2 : decide (1114111 < (k : Int)) = false := by simp; omega
  have g3 : decide (55296 ≤ (k : Int)) = true := by simp; omega
  have g4 : decide ((k : Int) ≤ 57343) = false := by simp; omega
  have g5 : decide (65535 < (k : Int)) = true := by simp; omega
  have hwk : IntKind.u64.wrap (k : Int) = (k : Int) := by rw [IntKind.wrap_u64]; omega
  go_enter Tryd.func6, Tryd.ntmps6
  go_wp2_with (go_at_call 20; refine (FormatUint_of _ 16 k _ (by omega) _ (by decide) (by decide) (by omega) hE).mono ?_; rintro e w1 ⟨rfl, hw1⟩)
  clear hwk g1 g2
  go_loop [3] (fun a => ∃ m : Nat, m + (digs 16 k).length ≤ 8 ∧ a = .string (zs m 16 k)) (fun a => 64 - (strOf a).size)
  case atStart => exact ⟨0, by omega, rfl⟩
  case round =>
    obtain ⟨m, hm, rfl⟩ := hrel
    have hsz := zs_size m 16 k
    by_cases hlt : m + (digs 16 k).length < 8
    · have hc := zs_succ m 16 k
      go_wp2
      go_round
      case rel => exact ⟨m + 1, by omega, rfl⟩
      case measure => simp [strOf, zs_size]; omega
    · obtain rfl : m = 8 - (digs 16 k).length := by omega
      rw [← HZ.out]
      clear hsz hlt hm
      go_wp2_with (go_at_call 21; refine (HQ.out _).mono ?_; rintro e w2 ⟨rfl, hw2⟩)
      all_goals go_ret
      all_goals exact ⟨by first | rfl | simp, hw1.trans (hw2.mono hw1.size)⟩

theorem walk (x : Int) (wx : (Lit.int .i32 x).wf = true) (w : World) (hE : Env w.heap.size w) :
    Calls Tryd.prog 6 #[.int .i32 x] w fun e w' => e = .returned (.bool true) ∧ Below w.heap.size w w' := by
  have hb := wf_i32 wx
  by_cases h1 : x < 128
  · have g1 : decide (x < 128) = true := by simpa using h1
    go_enter Tryd.func6, Tryd.ntmps6
    go_wp2
    go_ret
    exact ⟨rfl, Below.refl _ _⟩
  · have g1 : decide (x < 128) = false := by simpa using h1
    by_cases h2 : 1114111 < x
    · have g2 : decide (1114111 < x) = true := by simpa using h2
      go_enter Tryd.func6, Tryd.ntmps6
      go_wp2
      go_ret
      exact ⟨rfl, Below.refl _ _⟩
    · by_cases h3 : 55296 ≤ x ∧ x ≤ 57343
      · have g2 : decide (1114111 < x) = false := by simpa using h2
        have g3 : decide (55296 ≤ x) = true := by simp; omega
        have g4 : decide (x ≤ 57343) = true := by simp; omega
        go_enter Tryd.func6, Tryd.ntmps6
        go_wp2
        go_ret
        exact ⟨rfl, Below.refl _ _⟩
      · obtain ⟨k, rfl⟩ : ∃ k : Nat, x = k := ⟨x.toNat, by omega⟩
        by_cases h4 : k < 55296
        · exact walk_low k (by omega) h4 w hE
        · by_cases h5 : k < 65536
          · exact walk_mid k (by omega) h5 w hE
          · exact walk_high k (by omega) (by omega) w hE
end fnHexEscape
namespace fnHexEscape
open Go.ChangeShapes Go.WideShapes Go.ChangeAt Go.RowKit
set_option maxRecDepth 100000 in
theorem contract (H : Type) (enc : TypeId × Value → H) (W : World) (base : Nat) (args : Array Value) (ds gs : List (DataW H)) (before : List MemPlace)
    (hval : ∀ (j : Nat) t v, Tryd.f6.params[j]? = some t → args[j]? = some v → Value.okWide Tryd.prog W .any base t v)
    (hW : DataW.Whole enc Tryd.prog Tryd.f6.params.toList Rows.fnHexEscapeSpec.vars false W args.toList ds gs before) (hL : laidMet Tryd.prog Rows.fnHexEscapeRow.laid W) :
    Calls Tryd.prog 6 args W fun e W' => ∃ v, e = .returned v ∧ Rows.fnHexEscapeSpec.post enc Tryd.prog Tryd.f6 false true false false W args v W' := by
  have hW' := hW
  obtain ⟨p, q, hA0, hV, rfl, hfz, hnd⟩ := hW
  have hA : DataW.TrodAll enc Tryd.prog W 0 (fun _ => true) true Tryd.f6.params.toList args.toList ds p := hA0
  rw [Tryd.params6] at hA hval
  obtain ⟨v0, vs0, d0, ds0, p0, q0, hargs, rfl, rfl, h0, r0⟩ := trodAll_cons hA
  obtain ⟨rfl, rfl, rfl⟩ := trodAll_nil r0
  obtain rfl : args = #[v0] := by cases args; simp_all
  obtain ⟨rfl, rfl⟩ := trodVars_none hV
  obtain ⟨x0, rfl, rfl, rfl, w0⟩ := open_int Tryd.underlying21 (hval 0 21 v0 rfl rfl) h0
  clear hA0
  simp only [List.append_nil] at hW'
  refine (walk x0 w0 W (env_nums hL)).mono fun e W' ⟨he, hg⟩ => ?_
  subst he
  refine ⟨_, rfl, _, _, _, [], [], [], hW', ?_, ?_, rfl, hg.frame _, fun h => by cases h⟩
  · exact trodAll_cons_mk (shut_bool Tryd.underlying4 _) trodAll_mk0
  · exact trodAll_cons_mk (shut_int Tryd.underlying21 w0) (trodAll_mk0)

theorem plainList : laidMetH Tryd.prog Rows.fnHexEscapeRow.laid = laidMet Tryd.prog Rows.fnHexEscapeRow.laid := funext fun _ => MakeChecks.laidMetH_plain _ _ _ (by kernel_rfl)
theorem laid_met (os : Os) : laidMetH Tryd.prog Rows.fnHexEscapeRow.laid ((World.laidAll Tryd.prog os Rows.fnHexEscapeRow.laid).forCall (fun _ _ => 0) ⟨#[], #[.int .i32 0], []⟩).memory := by
  rw [plainList]; exact laidMet_laidAll _ (by kernel_rfl) (by kernel_rfl)
theorem reads (os : Os) {H : Type} (enc : TypeId × Value → H) : ∃ places, DataW.whole enc Tryd.prog ((World.laidAll Tryd.prog os Rows.fnHexEscapeRow.laid).forCall (fun _ _ => 0) ⟨#[], #[.int .i32 0], []⟩).memory Tryd.f6.params.toList Rows.fnHexEscapeSpec.vars false #[(.int .i32 0 : Value)].toList 8 = some ([.lit (.int .i32 0)], [], places) :=
  ⟨[], by kernel_rfl⟩

set_option maxRecDepth 100000 in
theorem lifted (os : Os) (started : os.Started) (H : Type) (enc : TypeId × Value → H) (F : Stop.Interp) :
    ReturnsInHanded {} Tryd.checked os 6 .any ((OpenSpec.ofChange Rows.fnHexEscapeSpec).preRow enc Tryd.prog Tryd.f6 Rows.fnHexEscapeRow.domain false Rows.fnHexEscapeRow.laid) (((OpenSpec.ofChange Rows.fnHexEscapeSpec).at F).post enc Tryd.prog Tryd.f6 false true false false) := by
  obtain ⟨places, hx⟩ := reads os enc
  refine returnsInHanded_of_row (C := Tryd.checked) (s := OpenSpec.ofChange Rows.fnHexEscapeSpec) ownKnobs started (by kernel_rfl) Tryd.func6
    (witness_laid #[.int .i32 0] (World.shaped_of_ZipB (by kernel_rfl) (by kernel_rfl)) (by kernel_rfl)
      (OpenSpec.preRow_of_cond 8 hx (by kernel_rfl) (fun k hk => by cases hk) (by kernel_rfl) (laid_met os))) ?_
  intro W base args ds gs before hval hW _ hcond _ hL _ _
  have hL2 : laidMetH Tryd.prog Rows.fnHexEscapeRow.laid W := hL
  rw [plainList] at hL2
  exact contract H enc W base args ds gs before hval hW hL2

theorem said : Rows.FnHexEscapeSaid :=
  OpenClaim.holds_of_cond 6 Tryd.f6 rfl rfl rfl rfl rfl rfl rfl ⟨rfl, rfl, rfl, rfl, rfl⟩ rfl rfl rfl rfl rfl (by kernel_rfl) Tryd.func6 (by kernel_rfl)
    (of_decide_eq_true (by kernel_rfl)) (by unfold Func.isWrapper; first | (rw [if_pos (by decide +kernel)]; kernel_rfl) | (rw [if_neg (by decide +kernel)]; exact ⟨rfl, rfl⟩))
    (fun os started H enc _ F => by rw [OpenClaim.pre_eq_preRow]; exact lifted os started H enc F)

theorem plain (f : FuncId) (fn : Func) (hf : Tryd.pinned.checked.prog.funcNamed "loop.example/lib-g01429/laws.FnHexEscape" = some f) (hfn : Tryd.pinned.checked.prog.funcs[f]? = some fn) :
    true = Tryd.pinned.checked.prog.looks [] ∧ ∀ (j : Nat) t, fn.params[j]? = some t → Tryd.pinned.checked.prog.wantsStandIn t = false := by
  obtain rfl : f = 6 := Option.some.inj ((show Tryd.prog.funcNamed "loop.example/lib-g01429/laws.FnHexEscape" = some 6 by kernel_rfl).symm.trans hf) |>.symm
  obtain rfl : fn = Tryd.f6 := (Option.some.inj (Tryd.func6.symm.trans hfn)).symm
  refine ⟨by kernel_rfl, fun j t ht => ?_⟩
  rw [Tryd.params6] at ht
  obtain rfl : t = 21 := by simpa using Array.mem_of_getElem? ht
  exact (show Tryd.prog.wantsStandIn 21 = false by kernel_rfl)

/-- THE CARD. -/
theorem card : Rows.FnHexEscapeCardSaid :=
  Claim7.holds_tied_plain_at .later [] _ _ _ _ said (fun _ h => by cases h) (by kernel_rfl) (fun _ h => by cases h) fnHexEscape_row_tie rfl ⟨rfl, rfl⟩ (by kernel_rfl) rfl plain (by kernel_rfl)
end fnHexEscape
end Go.Proofs.YthjkpkkkjndjlaaDoor
