/- FnExactAppendNumbers returns true for all lists: AppendNumbers answers as the reference does, leaves its arguments alone and hands back memory of its own. Conditions: none beyond the card's own. -/
import Derived.Test.YtenepfefpoiddaaDoorSpecApp
import Derived.Test.YtenepfefpoiddaaDoorMarkA
namespace Go.Proofs.YtenepfefpoiddaaDoor
open Go.RowKit
namespace fnExactAppendNumbers

theorem ints_row {w : World} {a : Option Addr} {xs : List Int} (h : IntsIn w a xs) : RowIn w a (kCells .i64 xs) := by
  intro i hi
  have hi' : i < xs.length := by rw [kCells_len] at hi; exact hi
  obtain ⟨b, off, h1, h2⟩ := h i hi'
  exact ⟨b, off, h1, by rw [h2, kCells_at xs i hi']⟩
theorem row_ints {w : World} {a : Option Addr} {xs : List Int} (h : RowIn w a (kCells .i64 xs)) : IntsIn w a xs := by
  intro i hi
  obtain ⟨b, off, h1, h2⟩ := h i (by rw [kCells_len]; exact hi)
  exact ⟨b, off, h1, by rw [h2, kCells_at xs i hi]⟩
theorem base_apart {w w' : World} {B B' : Nat} {e e' : TypeId} {k k' : Nat} {v v' : Value} {n n' : Nat} {xs xs' : List Value} (h : w.ownsRow B e k v n xs) (h' : w'.ownsRow B' e' k' v' n' xs') (hle : w.heap.size ≤ B') : v.ownBlock = none ∨ v.ownBlock ≠ v'.ownBlock := by
  cases hv : v.ownBlock with
  | none => exact .inl rfl
  | some g =>
    refine .inr fun heq => ?_
    have h1 := h.lt g hv
    have h2 := h'.lt g heq.symm
    omega

set_option maxHeartbeats 2000000 in
set_option maxRecDepth 100000 in
theorem walkOf (w : World) (a0 : Option Addr) (n cap : Nat) (xs : List Int) (hn : xs.length = n) (hin : IntsIn w a0 xs) (hwf : ∀ x ∈ xs, (Lit.int .i64 x).wf = true) (bd : n ≤ 1048576) (hE : Env w.heap.size w) :
    Calls Tryd.prog 3 #[.slice a0 n cap] w fun e w' => e = .returned (.bool true) ∧ Below w.heap.size w w' := by
  have HT : Hid (∀ w1, Below w.heap.size w w1 → Calls Tryd.prog 14 #[.slice a0 n cap] w1 fun e w' => e = .returned (.slice (some ⟨w1.heap.size, 0, none⟩) n n) ∧ w'.ownsRow w1.heap.size 2 1 (.slice (some ⟨w1.heap.size, 0, none⟩) n n) n (kCells .i64 xs) ∧ Below w1.heap.size w1 w') :=
    Lib.hid fun w1 h1 => toInt64S_any w1 a0 n cap xs hn ((ints_row hin).on h1) bd
  have HSA : Hid (∀ w1 g, RowIn w1 (some ⟨g, 0, none⟩) (kCells .i64 xs) → Calls Tryd.prog 13 #[.slice (some ⟨g, 0, none⟩) n n] w1 fun e w' => ∃ v, e = .returned v ∧ w'.ownsRow w1.heap.size 5 1 v (blanks xs).length (bCells (blanks xs)) ∧ Below w1.heap.size w1 w') :=
    Lib.hid fun w1 g h1 => specAppend_any w1 (some ⟨g, 0, none⟩) n n xs hn (Nat.le_refl _) (row_ints h1) hwf bd
  have HIA : Hid (∀ w1 g, Below w.heap.size w w1 → RowIn w1 (some ⟨g, 0, none⟩) (kCells .i64 xs) → Calls Tryd.prog 15 #[.slice (some ⟨g, 0, none⟩) n n] w1 fun e w' => ∃ v, e = .returned v ∧ w'.ownsRow w1.heap.size 5 1 v (blanks xs).length (bCells (blanks xs)) ∧ Below w1.heap.size w1 w') :=
    Lib.hid fun w1 g hb h1 => AppendNumbers_any w1 (some ⟨g, 0, none⟩) n n xs hn (Nat.le_refl _) (row_ints h1) hwf bd w.heap.size (hE.on hb)
  have hbl := blanks_len xs hwf
  rw [hn] at hbl
  obtain ⟨L, hL⟩ : ∃ L, blanks xs = L := ⟨_, rfl⟩
  rw [hL] at HSA HIA hbl
  rw [bCells_k] at HSA HIA
  obtain ⟨K, hK⟩ : ∃ K : List Int, (L.map fun c => (c.toNat : Int)) = K := ⟨_, rfl⟩
  have hKl : K.length = L.length := by rw [← hK, List.length_map]
  rw [hK] at HSA HIA
  obtain ⟨N, hN⟩ : ∃ N, L.length = N := ⟨_, rfl⟩
  rw [hN] at HSA HIA hbl hKl
  have hNb : N ≤ 69206016 := by omega
  have HEQ : Hid (∀ w1 a1 c1 a2 c2, RowIn w1 a1 (kCells .u8 K) → RowIn w1 a2 (kCells .u8 K) → Calls Tryd.prog 16 #[.slice a1 N c1, .slice a2 N c2] w1 fun e w' => e = .returned (.bool true) ∧ Below w1.heap.size w1 w') :=
    Lib.hid fun w1 a1 c1 a2 c2 h1 h2 => eqByteS_same w1 a1 a2 N c1 c2 K hKl h1 h2 (by omega)
  have HE64 : Hid (∀ w1 a1 c1 a2 c2, RowIn w1 a1 (kCells .i64 xs) → RowIn w1 a2 (kCells .i64 xs) → Calls Tryd.prog 17 #[.slice a1 n c1, .slice a2 n c2] w1 fun e w' => e = .returned (.bool true) ∧ Below w1.heap.size w1 w') :=
    Lib.hid fun w1 a1 c1 a2 c2 h1 h2 => eqInt64S_same w1 a1 a2 n c1 c2 xs hn h1 h2 (by omega)
  clear hL hK hN hKl hn hin hwf hbl
  have bd2 : decide (1048576 < n) = false := by simp; omega
  go_enter Tryd.func3, Tryd.ntmps3
  go_wp2_with (go_at_call 14; refine (HT.out _ (Below.refl _ _)).mono ?_; rintro e w1 ⟨rfl, o1, hb1⟩; refine Hid.out ?_)
  refine Lib.hid ?_
  go_wp2_with (go_at_call 13; refine (HSA.out _ _ (own_rowIn o1)).mono ?_; rintro e w2 ⟨vw, rfl, pW, hb2⟩; refine Hid.out ?_)
  refine Lib.hid ?_
  clear o1
  have B2 := hb1.trans (hb2.mono hb1.size)
  obtain ⟨bw, cw, rfl⟩ := own_shape pW
  go_wp2_with (go_at_call 14; refine (HT.out _ B2).mono ?_; rintro e w3 ⟨rfl, pX, hb3⟩; refine Hid.out ?_)
  refine Lib.hid ?_
  have B3 := B2.trans (hb3.mono B2.size)
  have qW := own_below pW hb3
  clear pW
  go_wp2_with (go_at_call 15; refine (HIA.out _ _ B3 (own_rowIn pX)).mono ?_; rintro e w4 ⟨vg, rfl, pG, hb4⟩; refine Hid.out ?_)
  refine Lib.hid ?_
  have B4 := B3.trans (hb4.mono B3.size)
  obtain ⟨bg, cg, rfl⟩ := own_shape pG
  have rW := own_below qW hb4
  have rX := own_below pX hb4
  have ap := base_apart qW pG (Nat.le_refl _)
  clear qW pX
  go_wp2_with (go_at_call 16; refine (HEQ.out _ _ _ _ _ (own_rowIn pG) (own_rowIn rW)).mono ?_; rintro e w5 ⟨rfl, hb5⟩; refine Hid.out ?_)
  refine Lib.hid ?_
  have B5 := B4.trans (hb5.mono B4.size)
  have sW := own_below rW hb5
  have sX := own_below rX hb5
  have sG := own_below pG hb5
  clear rW rX pG
  go_wp2_with (go_at_call 14; refine (HT.out _ B5).mono ?_; rintro e w6 ⟨rfl, pT, hb6⟩; refine Hid.out ?_)
  refine Lib.hid ?_
  have B6 := B5.trans (hb6.mono B5.size)
  have tW := own_below sW hb6
  have tX := own_below sX hb6
  have tG := own_below sG hb6
  clear sW sX sG
  go_wp2_with (go_at_call 17; refine (HE64.out _ _ _ _ _ (own_rowIn tX) (own_rowIn pT)).mono ?_; rintro e w7 ⟨rfl, hb7⟩; refine Hid.out ?_)
  refine Lib.hid ?_
  have B7 := B6.trans (hb7.mono B6.size)
  have uW := own_below tW hb7
  have uX := own_below tX hb7
  have uG := own_below tG hb7
  clear tW tX tG pT
  go_wp2_with (go_at_call 18; refine (markInt64S_any _ _ _ _ _ 1 _ uX (by omega)).mono ?_; rintro e w8 ⟨rfl, _, hg8⟩; refine Hid.out ?_)
  refine Lib.hid ?_
  have B8 := B7.grown hg8 B7.size (fun k hk => Nat.le_trans B2.size (uX.lt k hk).1)
  have xW := uW.kept hg8 (rows_apart uW uX (by decide))
  have xG := uG.kept hg8 (rows_apart uG uX (by decide))
  clear uW uG uX hg8
  have gk : decide (1 + (n : Int) < 0) = false := by simp; omega
  go_wp2_with (go_at_call 16; refine (HEQ.out _ _ _ _ _ (own_rowIn xG) (own_rowIn xW)).mono ?_; rintro e w9 ⟨rfl, hb9⟩; refine Hid.out ?_)
  refine Lib.hid ?_
  have B9 := B8.trans (hb9.mono B8.size)
  have yW := own_below xW hb9
  have yG := own_below xG hb9
  clear xW xG
  go_wp2_with (go_at_call 19; refine (markByteS_any _ _ _ _ _ 1 _ yG (by omega)).mono ?_; rintro e w10 ⟨rfl, zG, hg10⟩; refine Hid.out ?_)
  refine Lib.hid ?_
  have B10 := B9.grown hg10 B9.size (fun k hk => Nat.le_trans B3.size (yG.lt k hk).1)
  have zW := yW.kept hg10 ap
  clear yW yG hg10
  go_wp2_with (go_at_call 20; refine (heldByteS_any _ _ _ _ 1 (own_rowIn zG) (by omega)).mono ?_; rintro e w11 ⟨rfl, hb11⟩; refine Hid.out ?_)
  refine Lib.hid ?_
  have B11 := B10.trans (hb11.mono B10.size)
  have aW := own_below zW hb11
  have aG := own_below zG hb11
  clear zW zG
  have gq : decide (1 + (N : Int) < 0) = false := by simp; omega
  go_wp2_with (go_at_call 14; refine (HT.out _ B11).mono ?_; rintro e w12 ⟨rfl, pT, hb12⟩; refine Hid.out ?_)
  refine Lib.hid ?_
  have B12 := B11.trans (hb12.mono B11.size)
  have bW := own_below aW hb12
  have bG := own_below aG hb12
  clear aW aG
  go_wp2_with (go_at_call 15; refine (HIA.out _ _ B12 (own_rowIn pT)).mono ?_; rintro e w13 ⟨vh, rfl, pH, hb13⟩; refine Hid.out ?_)
  refine Lib.hid ?_
  have B13 := B12.trans (hb13.mono B12.size)
  obtain ⟨bh, ch, rfl⟩ := own_shape pH
  have cW := own_below bW hb13
  have cG := own_below bG hb13
  clear bW bG pT
  go_wp2_with (go_at_call 16; refine (HEQ.out _ _ _ _ _ (own_rowIn pH) (own_rowIn cW)).mono ?_; rintro e w14 ⟨rfl, hb14⟩; refine Hid.out ?_)
  refine Lib.hid ?_
  have B14 := B13.trans (hb14.mono B13.size)
  have dG := own_below cG hb14
  clear cW cG pH
  go_wp2_with (go_at_call 20; refine (heldByteS_any _ _ _ _ 1 (own_rowIn dG) (by omega)).mono ?_; rintro e w15 ⟨rfl, hb15⟩; refine Hid.out ?_)
  refine Lib.hid ?_
  go_wp2
  go_ret
  exact ⟨rfl, B14.trans (hb15.mono B14.size)⟩

set_option maxRecDepth 100000 in
theorem walk (a0 : Option Addr) (len cap : Nat) (xs : List Int) (ex : xs.length = len) (_lc : len ≤ cap) (_cm : cap ≤ maxLen) (w : World) (hin : IntsIn w a0 xs) (hwf : ∀ x ∈ xs, (Lit.int .i64 x).wf = true) (hE : Env w.heap.size w) :
    Calls Tryd.prog 3 #[.slice a0 len cap] w fun e w' => e = .returned (.bool true) ∧ Below w.heap.size w w' := by
  by_cases h : len ≤ 1048576
  · exact walkOf w a0 len cap xs ex hin hwf h hE
  · have hd : decide (1048576 < (len : Int)) = true := by simp; omega
    clear ex hin
    go_enter Tryd.func3, Tryd.ntmps3
    go_wp2
    go_ret
    exact ⟨rfl, Below.refl _ _⟩
end fnExactAppendNumbers
namespace fnExactAppendNumbers
open Go.ChangeShapes Go.WideShapes Go.ChangeAt Go.RowKit
set_option maxRecDepth 100000 in
theorem contract (H : Type) (enc : TypeId × Value → H) (W : World) (base : Nat) (args : Array Value) (ds gs : List (DataW H)) (before : List MemPlace)
    (hval : ∀ (j : Nat) t v, Tryd.f3.params[j]? = some t → args[j]? = some v → Value.okWide Tryd.prog W .any base t v)
    (hW : DataW.Whole enc Tryd.prog Tryd.f3.params.toList Rows.fnExactAppendNumbersSpec.vars false W args.toList ds gs before) (hL : laidMet Tryd.prog Rows.fnExactAppendNumbersRow.laid W) :
    Calls Tryd.prog 3 args W fun e W' => ∃ v, e = .returned v ∧ Rows.fnExactAppendNumbersSpec.post enc Tryd.prog Tryd.f3 false true false false W args v W' := by
  have hW' := hW
  obtain ⟨p, q, hA0, hV, rfl, hfz, hnd⟩ := hW
  have hA : DataW.TrodAll enc Tryd.prog W 0 (fun _ => true) true Tryd.f3.params.toList args.toList ds p := hA0
  rw [Tryd.params3] at hA hval
  obtain ⟨v0, vs0, d0, ds0, p0, q0, hargs, rfl, rfl, h0, r0⟩ := trodAll_cons hA
  obtain ⟨rfl, rfl, rfl⟩ := trodAll_nil r0
  obtain rfl : args = #[v0] := by cases args; simp_all
  obtain ⟨rfl, rfl⟩ := trodVars_none hV
  obtain ⟨a0, len0, cap0, rfl⟩ := okWide_slice Tryd.underlying22 (hval 0 22 v0 rfl rfl)
  obtain ⟨xs0, ex0, lc0, cm0, in0, wf0, bk0⟩ := opened_ints Tryd.underlying22 Tryd.underlying2 (by kernel_rfl) h0
  clear hA0
  simp only [List.append_nil] at hW'
  have hlt := fun x hx => hW'.lt x hx
  refine (walk a0 len0 cap0 xs0 ex0 lc0 cm0 W in0 wf0 (env_nums hL)).mono fun e W' ⟨he, hg⟩ => ?_
  subst he
  have hback := trodAll_cons_mk (Below.trod laidOut (by kernel_rfl) (of_decide_eq_true (by kernel_rfl)) h0 hg (fun x hx => hlt x (by simp [hx]))) (trodAll_mk0)
  exact ⟨_, rfl, _, _, _, [], _, [], hW', trodAll_cons_mk (shut_bool Tryd.underlying4 _) trodAll_mk0, hback, rfl, hg.frame _, fun h => by cases h⟩

theorem plainList : laidMetH Tryd.prog Rows.fnExactAppendNumbersRow.laid = laidMet Tryd.prog Rows.fnExactAppendNumbersRow.laid := funext fun _ => MakeChecks.laidMetH_plain _ _ _ (by kernel_rfl)
theorem laid_met (os : Os) : laidMetH Tryd.prog Rows.fnExactAppendNumbersRow.laid ((World.laidAll Tryd.prog os Rows.fnExactAppendNumbersRow.laid).forCall (fun _ _ => 0) ⟨#[], #[.slice none 0 0], []⟩).memory := by
  rw [plainList]; exact laidMet_laidAll _ (by kernel_rfl) (by kernel_rfl)
theorem reads (os : Os) {H : Type} (enc : TypeId × Value → H) : ∃ places, DataW.whole enc Tryd.prog ((World.laidAll Tryd.prog os Rows.fnExactAppendNumbersRow.laid).forCall (fun _ _ => 0) ⟨#[], #[.slice none 0 0], []⟩).memory Tryd.f3.params.toList Rows.fnExactAppendNumbersSpec.vars false #[(.slice none 0 0 : Value)].toList 8 = some ([.nil], [], places) :=
  ⟨[], by kernel_rfl⟩

set_option maxRecDepth 100000 in
theorem lifted (os : Os) (started : os.Started) (H : Type) (enc : TypeId × Value → H) (F : Stop.Interp) :
    ReturnsInHanded {} Tryd.checked os 3 .any ((OpenSpec.ofChange Rows.fnExactAppendNumbersSpec).preRow enc Tryd.prog Tryd.f3 Rows.fnExactAppendNumbersRow.domain false Rows.fnExactAppendNumbersRow.laid) (((OpenSpec.ofChange Rows.fnExactAppendNumbersSpec).at F).post enc Tryd.prog Tryd.f3 false true false false) := by
  obtain ⟨places, hx⟩ := reads os enc
  refine returnsInHanded_of_row (C := Tryd.checked) (s := OpenSpec.ofChange Rows.fnExactAppendNumbersSpec) ownKnobs started (by kernel_rfl) Tryd.func3
    (witness_laid #[.slice none 0 0] (World.shaped_of_ZipB (by kernel_rfl) (by kernel_rfl)) (by kernel_rfl)
      (OpenSpec.preRow_of_cond 8 hx (by kernel_rfl) (fun k hk => by cases hk) (by kernel_rfl) (laid_met os))) ?_
  intro W base args ds gs before hval hW _ hcond _ hL _ _
  have hL2 : laidMetH Tryd.prog Rows.fnExactAppendNumbersRow.laid W := hL
  rw [plainList] at hL2
  exact contract H enc W base args ds gs before hval hW hL2

theorem said : Rows.FnExactAppendNumbersSaid :=
  OpenClaim.holds_of_cond 3 Tryd.f3 rfl rfl rfl rfl rfl rfl rfl ⟨rfl, rfl, rfl, rfl, rfl⟩ rfl rfl rfl rfl rfl (by kernel_rfl) Tryd.func3 (by kernel_rfl)
    (of_decide_eq_true (by kernel_rfl)) (by unfold Func.isWrapper; first | (rw [if_pos (by decide +kernel)]; kernel_rfl) | (rw [if_neg (by decide +kernel)]; exact ⟨rfl, rfl⟩))
    (fun os started H enc _ F => by rw [OpenClaim.pre_eq_preRow]; exact lifted os started H enc F)

theorem plain (f : FuncId) (fn : Func) (hf : Tryd.pinned.checked.prog.funcNamed "loop.example/lib-g01429/laws.FnExactAppendNumbers" = some f) (hfn : Tryd.pinned.checked.prog.funcs[f]? = some fn) :
    true = Tryd.pinned.checked.prog.looks [] ∧ ∀ (j : Nat) t, fn.params[j]? = some t → Tryd.pinned.checked.prog.wantsStandIn t = false := by
  obtain rfl : f = 3 := Option.some.inj ((show Tryd.prog.funcNamed "loop.example/lib-g01429/laws.FnExactAppendNumbers" = some 3 by kernel_rfl).symm.trans hf) |>.symm
  obtain rfl : fn = Tryd.f3 := (Option.some.inj (Tryd.func3.symm.trans hfn)).symm
  refine ⟨by kernel_rfl, fun j t ht => ?_⟩
  rw [Tryd.params3] at ht
  obtain rfl : t = 22 := by simpa using Array.mem_of_getElem? ht
  exact (show Tryd.prog.wantsStandIn 22 = false by kernel_rfl)

/-- THE CARD. -/
theorem card : Rows.FnExactAppendNumbersCardSaid :=
  Claim7.holds_tied_plain_at .later [] _ _ _ _ said (fun _ h => by cases h) (by kernel_rfl) (fun _ h => by cases h) fnExactAppendNumbers_row_tie rfl ⟨rfl, rfl⟩ (by kernel_rfl) rfl plain (by kernel_rfl)
end fnExactAppendNumbers
end Go.Proofs.YtenepfefpoiddaaDoor
