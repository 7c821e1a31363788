/- FnQuotedNumber returns true for all lists of bounded bulk and all bases: a quoted list of numbers has the same text between its quotes, and is read back. Conditions: none beyond the card's own. -/
import Derived.Test.YthjkpkkkjndjlaaDoorPre
namespace Go.Proofs.YthjkpkkkjndjlaaDoor
open Go.RowKit
namespace fnQuotedNumber
theorem env {W : World} (h : laidMet Tryd.prog Rows.fnQuotedNumberUptoRow.laid W) : EnvS W :=
  ⟨env_nums h, print_of h (by simp [Rows.fnQuotedNumberUptoRow]) (by simp [Rows.fnQuotedNumberUptoRow]) (by simp [Rows.fnQuotedNumberUptoRow]) (by simp [Rows.fnQuotedNumberUptoRow]) (by simp [Rows.fnQuotedNumberUptoRow]), utf8_of h (by simp [Rows.fnQuotedNumberUptoRow]) (by simp [Rows.fnQuotedNumberUptoRow])⟩

/-- The texts of numbers, a semicolon behind each. -/
def semi (b : Nat) (xs : List Int) : List UInt8 := (xs.map fun x => itext b x ++ [59]).flatten
theorem semi_take (b : Nat) (xs : List Int) (j : Nat) (h : j < xs.length) : semi b (xs.take (j + 1)) = semi b (xs.take j) ++ (itext b (xs[j]'h) ++ [59]) := by
  rw [← List.take_append_getElem h]
  simp only [semi, List.map_append, List.flatten_append]
  simp
theorem semi_len {b : Nat} (hb : 2 ≤ b) : ∀ (xs : List Int), (∀ x ∈ xs, (Lit.int .i64 x).wf = true) → 2 * xs.length ≤ (semi b xs).length ∧ (semi b xs).length ≤ 66 * xs.length
  | [], _ => by simp [semi]
  | x :: r, h => by
    have h1 := wf_i64 (h x (by simp))
    have h2 := itext_bd hb h1.1 h1.2
    have h3 := semi_len hb r (fun y hy => h y (by simp [hy]))
    have e : semi b (x :: r) = (itext b x ++ [59]) ++ semi b r := by simp [semi]
    rw [e, List.length_append, List.length_append, List.length_cons]
    simp only [List.length_cons, List.length_nil]
    omega
/-- A byte that is written as it is. -/
def Plain (c : UInt8) : Prop := 32 ≤ c.toNat ∧ c.toNat < 127 ∧ c.toNat ≠ 34 ∧ c.toNat ≠ 92
theorem dch_plain (d : Nat) (h : d < 36) : Plain (dch d) := by
  unfold Plain
  rw [dch_toNat h]
  split <;> omega
theorem itext_plain {b : Nat} (hb : 2 ≤ b) (hb2 : b ≤ 36) (x : Int) : ∀ c ∈ itext b x, Plain c := by
  have ht : ∀ c ∈ text b x.natAbs, Plain c := by
    intro c hc
    obtain ⟨d, hd, rfl⟩ := List.mem_map.1 hc
    exact dch_plain d (Nat.lt_of_lt_of_le (digs_bd hb _ d hd) hb2)
  intro c hc
  unfold itext at hc
  split at hc
  · rcases List.mem_cons.1 hc with rfl | h
    · exact ⟨by decide, by decide, by decide, by decide⟩
    · exact ht c h
  · exact ht c hc
theorem semi_plain {b : Nat} (hb : 2 ≤ b) (hb2 : b ≤ 36) (xs : List Int) : ∀ c ∈ semi b xs, Plain c := by
  intro c hc
  obtain ⟨l, hl, hcl⟩ := List.mem_flatten.1 hc
  obtain ⟨x, _, rfl⟩ := List.mem_map.1 hl
  rcases List.mem_append.1 hcl with h | h
  · exact itext_plain hb hb2 x c h
  · rw [List.mem_singleton.1 h]
    exact ⟨by decide, by decide, by decide, by decide⟩
theorem qFrom_plain (p : Int → Bool) (hp : FormOk p) : ∀ (f : Nat) (l : List UInt8), l.length ≤ f → (∀ c ∈ l, Plain c) → nb (qFrom p f l) = l
  | 0, l, h, _ => by
    obtain rfl : l = [] := List.eq_nil_of_length_eq_zero (by omega)
    rfl
  | f + 1, [], _, _ => by rw [qFrom_nil]; rfl
  | f + 1, c :: r, h, hc => by
    obtain ⟨h1, h2, h3, h4⟩ := hc c (by simp)
    have hd := Lib.decodeL_ascii c r (by omega)
    have ih := qFrom_plain p hp f r (by simpa using h) (fun d hm => hc d (by simp [hm]))
    rw [qFrom_step p (f + 1) (c :: r) (by simp) h, nb_append, Nat.add_sub_cancel, hd]
    show nb (qStep p (c :: r)) ++ nb (qFrom p f r) = c :: r
    rw [ih]
    have hb : ¬ bad (c :: r) := by
      rintro ⟨h5, _⟩
      rw [hd] at h5
      have h6 : c.toNat = 65533 := h5
      omega
    rw [qStep, if_neg hb, hd]
    show nb (escR p 34 (c.toNat : Int)) ++ r = c :: r
    rw [escR, if_neg (by omega), if_pos (hp.lat _ (by omega) (by omega)), Lib.encodeRuneZ_one (by omega) (by omega)]
    simp [nb]
theorem qZ_plain (p : Int → Bool) (hp : FormOk p) (l : List UInt8) (hc : ∀ c ∈ l, Plain c) : bs (nb (qZ p l)) = (⟨#[34]⟩ : ByteArray) ++ bs l ++ ⟨#[34]⟩ := by
  have h := qZ_cut p l []
  rw [List.append_nil, qFrom_plain p hp l.length l (Nat.le_refl _) hc] at h
  rw [h]
  show _ = bs [34] ++ bs l ++ bs [34]
  rw [bs_append, bs_append]
  rfl

set_option maxHeartbeats 1000000 in
set_option maxRecDepth 100000 in
theorem walkOf (w : World) (a0 : Option Addr) (cap : Nat) (xs : List Int) (lc : xs.length ≤ cap) (hin : IntsIn w a0 xs) (hwf : ∀ x ∈ xs, (Lit.int .i64 x).wf = true) (bd : xs.length ≤ 1048576)
    (b : Nat) (hb : 2 ≤ b) (hb2 : b ≤ 36) (hE : EnvS w) :
    Calls Tryd.prog 4 #[.slice a0 xs.length cap, .int .i64 b] w fun e w' => e = .returned (.bool true) ∧ Below w.heap.size w w' := by
  obtain ⟨n, hn⟩ : ∃ n, xs.length = n := ⟨_, rfl⟩
  rw [hn]
  rw [hn] at bd lc
  have HN := Lib.hid hn
  have HIN := Lib.hid hin
  have HWF := Lib.hid hwf
  have HE := Lib.hid hE
  clear hn hin hwf hE
  go_enter Tryd.func4, Tryd.ntmps4
  go_wp2_with (go_at_call 15; refine (based_yes b _ hb hb2).mono ?_; rintro e w' ⟨rfl, rfl⟩)
  go_loopw [5, 7, 16] (fun vt _ vj wr => ∃ (j : Nat) (T : ByteArray), j ≤ n ∧ vj = .int .i64 j ∧ vt = .string T ∧ Hid (T = bs (semi b (xs.take j))) ∧ Below w.heap.size w wr) (fun _ _ vj _ => n - (intOf vj).toNat)
  case atStart => exact ⟨0, ⟨#[]⟩, by omega, rfl, rfl, rfl, Below.refl _ _⟩
  case round =>
    obtain ⟨j, T, hj, rfl, rfl, HT, hbel⟩ := hrel
    have hTs : 2 * j ≤ T.size ∧ T.size ≤ 69206016 := by
      have h1 := semi_len hb (xs.take j) (fun x hx => HWF.out x (List.mem_of_mem_take hx))
      have h2 : (xs.take j).length = j := by rw [List.length_take, HN.out]; omega
      rw [HT.out, bs_size]; omega
    by_cases hlt : j < n
    · have hjx : j < xs.length := by rw [HN.out]; exact hlt
      obtain ⟨blk, off, rfl, hcell⟩ := (HIN.out.on hbel) j hjx
      have hx := wf_i64 (HWF.out _ (List.getElem_mem hjx))
      have hnext := semi_take b xs j hjx
      have hF := FormatInt_any b w.heap.size xs[j] wr hb hb2 hx.1 hx.2 (HE.out.nums.on hbel)
      obtain ⟨hl1, hl2⟩ := itext_bd hb hx.1 hx.2
      have hS : (istr b xs[j]).size ≤ 65 := by rw [istr, bs_size]; exact hl2
      have hSe : istr b xs[j] = bs (itext b xs[j]) := rfl
      generalize istr b xs[j] = S at *
      generalize itext b xs[j] = I at *
      generalize xs[j] = x at *
      have HF := Lib.hid hF
      have HX := Lib.hid hnext
      have HS := Lib.hid hSe
      clear hF hnext hSe hjx hl1 hl2
      go_wp2_with (go_at_call 16; refine HF.out.mono ?_; rintro e w1 ⟨rfl, hw1⟩)
      refine ⟨⟨j + 1, _, by omega, by go_num, rfl, ?_, hbel.trans (hw1.mono hbel.size)⟩, ?_⟩
      · show _ = _
        rw [HX.out, HT.out, HS.out, bs_one, bs_append, bs_append]
      · simp [intOf]; omega
    · obtain rfl : j = n := by omega
      have hT2 : T = bs (semi b xs) := by rw [HT.out, List.take_of_length_le (by rw [HN.out]; omega)]
      have hpl := qZ_plain pQ okQ (semi b xs) (semi_plain hb hb2 xs)
      have hsl : (semi b xs).length = T.size := by rw [hT2, bs_size]
      have hQ := Quote_any Lib.goPrintTabs grTab (semi b xs) wr (by omega) (HE.out.on hbel).print (HE.out.on hbel).utf8
      have hU := fun w1 (h1 : Below w.heap.size w w1) => Unquote_any pQ okQ (semi b xs) (by omega) w1 (HE.out.on h1).utf8
      rw [hpl, ← hT2] at hQ hU
      obtain ⟨N, hN⟩ : ∃ N, T.size = N := ⟨_, rfl⟩
      rw [hN] at hTs
      have HQ := Lib.hid hQ
      have HU := Lib.hid hU
      clear hQ hU hT2 hpl hsl HT hlt hj
      have g1 : decide (2 * (j : Int) ≤ (N : Int)) = true := by simp; omega
      go_wp2_with (first
        | (go_at_call 11; refine HQ.out.mono ?_; rintro e w1 ⟨rfl, hw1⟩)
        | (go_at_call 17; refine (HU.out _ (hbel.trans (hw1.mono hbel.size))).mono ?_; rintro e w2 ⟨rfl, hw2⟩))
      go_ret
      exact ⟨rfl, (hbel.trans (hw1.mono hbel.size)).trans (hw2.mono (hbel.trans (hw1.mono hbel.size)).size)⟩

set_option maxRecDepth 100000 in
theorem walk (a0 : Option Addr) (len cap : Nat) (xs : List Int) (ex : xs.length = len) (lc : len ≤ cap) (_cm : cap ≤ maxLen) (w : World) (hin : IntsIn w a0 xs) (hwf : ∀ x ∈ xs, (Lit.int .i64 x).wf = true) (bd : xs.length ≤ 1048576)
    (b : Int) (_hb : (Lit.int .i64 b).wf = true) (hE : EnvS w) :
    Calls Tryd.prog 4 #[.slice a0 len cap, .int .i64 b] w fun e w' => e = .returned (.bool true) ∧ Below w.heap.size w w' := by
  subst ex
  by_cases h : 2 ≤ b ∧ b ≤ 36
  · obtain ⟨c, rfl⟩ : ∃ c : Nat, b = c := ⟨b.toNat, by omega⟩
    exact walkOf w a0 cap xs lc hin hwf bd c (by omega) (by omega) hE
  · go_enter Tryd.func4, Tryd.ntmps4
    go_wp2_with (go_at_call 15; refine (based_no b _ h).mono ?_; rintro e w' ⟨rfl, rfl⟩)
    go_ret
    exact ⟨rfl, Below.refl _ _⟩
end fnQuotedNumber
namespace fnQuotedNumber
open Go.ChangeShapes Go.WideShapes Go.ChangeAt Go.RowKit
set_option maxRecDepth 100000 in
theorem contract (H : Type) (enc : TypeId × Value → H) (W : World) (base : Nat) (args : Array Value) (ds gs : List (DataW H)) (before : List MemPlace)
    (hval : ∀ (j : Nat) t v, Tryd.f4.params[j]? = some t → args[j]? = some v → Value.okWide Tryd.prog W .any base t v)
    (hW : DataW.Whole enc Tryd.prog Tryd.f4.params.toList Rows.fnQuotedNumberSpec.vars false W args.toList ds gs before) (hL : laidMet Tryd.prog Rows.fnQuotedNumberUptoRow.laid W) (hk : Rows.uptoSmall H (ds ++ gs) = true) :
    Calls Tryd.prog 4 args W fun e W' => ∃ v, e = .returned v ∧ Rows.fnQuotedNumberSpec.post enc Tryd.prog Tryd.f4 false true false false W args v W' := by
  have hW' := hW
  obtain ⟨p, q, hA0, hV, rfl, hfz, hnd⟩ := hW
  have hA : DataW.TrodAll enc Tryd.prog W 0 (fun _ => true) true Tryd.f4.params.toList args.toList ds p := hA0
  rw [Tryd.params4] at hA hval
  obtain ⟨v0, vs0, d0, ds0, p0, q0, hargs, rfl, rfl, h0, r0⟩ := trodAll_cons hA
  obtain ⟨v1, vs1, d1, ds1, p1, q1, rfl, rfl, rfl, h1, r1⟩ := trodAll_cons r0
  obtain ⟨rfl, rfl, rfl⟩ := trodAll_nil r1
  obtain rfl : args = #[v0, v1] := by cases args; simp_all
  obtain ⟨rfl, rfl⟩ := trodVars_none hV
  obtain ⟨a0, len0, cap0, rfl⟩ := okWide_slice Tryd.underlying27 (hval 0 27 v0 rfl rfl)
  obtain ⟨xs0, ex0, lc0, cm0, in0, wf0, bk0⟩ := opened_ints Tryd.underlying27 Tryd.underlying2 (by kernel_rfl) h0
  have bd0 : xs0.length ≤ 1048576 := by have hs := small hk; simp only [Rows.uptoBulkAll, List.append_nil] at hs; omega
  obtain ⟨x1, rfl, rfl, rfl, w1⟩ := open_int Tryd.underlying3 (hval 1 3 v1 rfl rfl) h1
  clear hA0
  simp only [List.append_nil] at hW'
  have hlt := fun x hx => hW'.lt x hx
  refine (walk a0 len0 cap0 xs0 ex0 lc0 cm0 W in0 wf0 bd0 x1 w1 (env hL)).mono fun e W' ⟨he, hg⟩ => ?_
  subst he
  have hback := trodAll_cons_mk (Below.trod laidOut (by kernel_rfl) (of_decide_eq_true (by kernel_rfl)) h0 hg (fun x hx => hlt x (by simp [hx]))) (trodAll_cons_mk (shut_int Tryd.underlying3 w1) (trodAll_mk0))
  exact ⟨_, rfl, _, _, _, [], _, [], hW', trodAll_cons_mk (shut_bool Tryd.underlying4 _) trodAll_mk0, hback, rfl, hg.frame _, fun h => by cases h⟩

theorem plainList : laidMetH Tryd.prog Rows.fnQuotedNumberUptoRow.laid = laidMet Tryd.prog Rows.fnQuotedNumberUptoRow.laid := funext fun _ => MakeChecks.laidMetH_plain _ _ _ (by kernel_rfl)
theorem laid_met (os : Os) : laidMetH Tryd.prog Rows.fnQuotedNumberUptoRow.laid ((World.laidAll Tryd.prog os Rows.fnQuotedNumberUptoRow.laid).forCall (fun _ _ => 0) ⟨#[], #[.slice none 0 0, .int .i64 0], []⟩).memory := by
  rw [plainList]; exact laidMet_laidAll _ (by kernel_rfl) (by kernel_rfl)
theorem reads (os : Os) {H : Type} (enc : TypeId × Value → H) : ∃ places, DataW.whole enc Tryd.prog ((World.laidAll Tryd.prog os Rows.fnQuotedNumberUptoRow.laid).forCall (fun _ _ => 0) ⟨#[], #[.slice none 0 0, .int .i64 0], []⟩).memory Tryd.f4.params.toList Rows.fnQuotedNumberSpec.vars false #[(.slice none 0 0 : Value), (.int .i64 0 : Value)].toList 8 = some ([.nil, .lit (.int .i64 0)], [], places) :=
  ⟨[], by kernel_rfl⟩

set_option maxRecDepth 100000 in
theorem lifted (os : Os) (started : os.Started) (H : Type) (enc : TypeId × Value → H) (F : Stop.Interp) :
    ReturnsInHanded {} Tryd.checked os 4 .any ((Rows.OpenSpec.upto Rows.fnQuotedNumberSpec).preRow enc Tryd.prog Tryd.f4 Rows.fnQuotedNumberUptoRow.domain false Rows.fnQuotedNumberUptoRow.laid) (((Rows.OpenSpec.upto Rows.fnQuotedNumberSpec).at F).post enc Tryd.prog Tryd.f4 false true false false) := by
  obtain ⟨places, hx⟩ := reads os enc
  refine returnsInHanded_of_row (C := Tryd.checked) (s := Rows.OpenSpec.upto Rows.fnQuotedNumberSpec) ownKnobs started (by kernel_rfl) Tryd.func4
    (witness_laid #[.slice none 0 0, .int .i64 0] (World.shaped_of_ZipB (by kernel_rfl) (by kernel_rfl)) (by kernel_rfl)
      (OpenSpec.preRow_of_cond 8 hx (by kernel_rfl) (fun k hk => by cases hk; kernel_rfl) (by kernel_rfl) (laid_met os))) ?_
  intro W base args ds gs before hval hW _ hcond _ hL _ _
  have hL2 : laidMetH Tryd.prog Rows.fnQuotedNumberUptoRow.laid W := hL
  rw [plainList] at hL2
  exact contract H enc W base args ds gs before hval hW hL2 (hcond _ rfl)

theorem said : Rows.FnQuotedNumberUptoSaid :=
  OpenClaim.holds_of_cond 4 Tryd.f4 rfl rfl rfl rfl rfl rfl rfl ⟨rfl, rfl, rfl, rfl, rfl⟩ rfl rfl rfl rfl rfl (by kernel_rfl) Tryd.func4 (by kernel_rfl)
    (of_decide_eq_true (by kernel_rfl)) (by unfold Func.isWrapper; first | (rw [if_pos (by decide +kernel)]; kernel_rfl) | (rw [if_neg (by decide +kernel)]; exact ⟨rfl, rfl⟩))
    (fun os started H enc _ F => by rw [OpenClaim.pre_eq_preRow]; exact lifted os started H enc F)

theorem plain (f : FuncId) (fn : Func) (hf : Tryd.pinned.checked.prog.funcNamed "loop.example/lib-g01429/laws.FnQuotedNumber" = some f) (hfn : Tryd.pinned.checked.prog.funcs[f]? = some fn) :
    true = Tryd.pinned.checked.prog.looks [] ∧ ∀ (j : Nat) t, fn.params[j]? = some t → Tryd.pinned.checked.prog.wantsStandIn t = false := by
  obtain rfl : f = 4 := Option.some.inj ((show Tryd.prog.funcNamed "loop.example/lib-g01429/laws.FnQuotedNumber" = some 4 by kernel_rfl).symm.trans hf) |>.symm
  obtain rfl : fn = Tryd.f4 := (Option.some.inj (Tryd.func4.symm.trans hfn)).symm
  refine ⟨by kernel_rfl, fun j t ht => ?_⟩
  rw [Tryd.params4] at ht
  have hm := Array.mem_of_getElem? ht
  simp only [List.mem_toArray, List.mem_cons, List.not_mem_nil, or_false] at hm
  rcases hm with rfl | rfl
  · exact (show Tryd.prog.wantsStandIn 27 = false by kernel_rfl)
  · exact (show Tryd.prog.wantsStandIn 3 = false by kernel_rfl)

/-- THE CARD. -/
theorem card : Rows.FnQuotedNumberUptoCardSaid :=
  Claim7.holds_tied_plain_at .later [] _ _ _ _ said (fun _ h => by cases h) (by kernel_rfl) (fun _ h => by cases h) fnQuotedNumberUpto_row_tie rfl ⟨rfl, rfl⟩ (by kernel_rfl) rfl plain (by kernel_rfl)
end fnQuotedNumber
end Go.Proofs.YthjkpkkkjndjlaaDoor
