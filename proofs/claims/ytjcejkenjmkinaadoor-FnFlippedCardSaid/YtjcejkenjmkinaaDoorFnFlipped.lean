/- FnFlipped returns true for every number of 64 bits: with zeros ahead up to 64 digits, the number with all bits turned has the other digits in base 2. Conditions: none beyond the card's own. -/
import Derived.Test.YtjcejkenjmkinaaDoorSpec
namespace Go.Proofs.YtjcejkenjmkinaaDoor
open Go.RowKit
namespace fnFlipped

/-- The digits in base 2 with zeros ahead up to 64. -/
def pad (x : Nat) : List Nat := List.replicate (64 - (digs 2 x).length) 0 ++ digs 2 x
theorem pad_len {x : Nat} (hx : x < 18446744073709551616) : (pad x).length = 64 := by
  have := digs_len (b := 2) (by decide) 63 x (by omega)
  simp [pad]; omega
theorem pad_bd (x : Nat) : ∀ d ∈ pad x, d < 2 := by
  intro d hd
  rcases List.mem_append.1 hd with h | h
  · have := List.eq_of_mem_replicate h; omega
  · exact digs_bd (by decide) x d h
theorem val_pad (x : Nat) : val 2 (pad x) = x := by rw [pad, val_zeros, val_digs (by decide)]
theorem val_flip (l : List Nat) (h : ∀ d ∈ l, d < 2) : val 2 (l.map fun d => 1 - d) + val 2 l + 1 = 2 ^ l.length := by
  induction l with
  | nil => simp [val]
  | cons d l ih =>
    have h1 := ih (fun x hx => h x (List.mem_cons_of_mem _ hx))
    have h2 := h d (List.mem_cons_self ..)
    rw [List.map_cons, val_cons, val_cons, List.length_map, List.length_cons, Nat.pow_succ]
    obtain rfl | rfl : d = 0 ∨ d = 1 := by omega
    · simp; omega
    · simp; omega
theorem pad_flip {x : Nat} (hx : x < 18446744073709551616) : pad (18446744073709551615 - x) = (pad x).map fun d => 1 - d := by
  refine val_inj (b := 2) _ _ ?_ (pad_bd _) ?_ ?_
  · rw [pad_len (by omega), List.length_map, pad_len hx]
  · intro d hd
    obtain ⟨a, _, rfl⟩ := List.mem_map.1 hd
    omega
  · have h1 := val_flip (pad x) (pad_bd x)
    rw [pad_len hx, val_pad] at h1
    rw [val_pad]
    have : (2 : Nat) ^ 64 = 18446744073709551616 := by decide
    omega
theorem pad_at {x : Nat} (hx : x < 18446744073709551616) (k : Nat) (hk : k < 64) :
    ((pad x)[k]'(by rw [pad_len hx]; exact hk) = 0 ∧ (pad (18446744073709551615 - x))[k]'(by rw [pad_len (by omega)]; exact hk) = 1) ∨
    ((pad x)[k]'(by rw [pad_len hx]; exact hk) = 1 ∧ (pad (18446744073709551615 - x))[k]'(by rw [pad_len (by omega)]; exact hk) = 0) := by
  have h1 := pad_bd x _ (List.getElem_mem (show k < (pad x).length by rw [pad_len hx]; exact hk))
  simp only [pad_flip hx, List.getElem_map]
  omega

/-- The string in a slot, for a loop's measure. -/
def strOf : Value → ByteArray | .string s => s | _ => ByteArray.empty

/-- The text that the loop has made when it has put k zeros ahead. -/
def ptext (k x : Nat) : List UInt8 := List.replicate k 48 ++ text 2 x
theorem ptext_len (k x : Nat) : (ptext k x).length = k + (digs 2 x).length := by simp [ptext, text_len]
theorem ptext_succ (k x : Nat) : (⟨#[48]⟩ : ByteArray) ++ bs (ptext k x) = bs (ptext (k + 1) x) := by
  rw [bs_one, bs_append]; rfl
theorem ptext_pad (x : Nat) : ptext (64 - (digs 2 x).length) x = (pad x).map dch := by
  simp [ptext, pad, text, dch]

theorem padded {x : Nat} (hx : x < 18446744073709551616) : (bs (ptext (64 - (digs 2 x).length) x)).size = 64 ∧
    ∀ j (_ : j < (bs (ptext (64 - (digs 2 x).length) x)).size) (h64 : j < 64), (bs (ptext (64 - (digs 2 x).length) x))[j] = dch ((pad x)[j]'(by rw [pad_len hx]; exact h64)) := by
  rw [ptext_pad]
  refine ⟨by rw [bs_size, List.length_map, pad_len hx], fun j hj h64 => ?_⟩
  rw [bs_get, List.getElem_map]

set_option maxHeartbeats 2000000 in
set_option maxRecDepth 100000 in
theorem walkOf (x : Nat) (hx : x < 18446744073709551616) (w : World) (hE : Env w.heap.size w) :
    Calls Tryd.prog 5 #[.int .u64 x] w fun e w' => e = .returned (.bool true) ∧ Below w.heap.size w w' := by
  obtain ⟨y, hy⟩ : ∃ y : Nat, y = 18446744073709551615 - x := ⟨_, rfl⟩
  have e1 := str_ne 2 x
  have e2 := str_ne 2 y
  have l1 := digs_len (b := 2) (by decide) 63 x (by omega)
  have l2 := digs_len (b := 2) (by decide) 63 y (by omega)
  have at1 := fun k hk => pad_at hx k hk
  have HY := Lib.hid hy
  have HA := Lib.hid at1
  clear hy at1
  go_enter Tryd.func5, Tryd.ntmps5
  go_wp2_with fail
  refine (FormatUint_any 2 x _ _ (by decide) (by decide) hx hE).mono ?_
  rintro e w1 ⟨rfl, hw1⟩
  go_wp2_with fail
  refine (FormatUint_of _ 2 y _ (by rw [HY.out]; omega) _ (by decide) (by decide) (by rw [HY.out]; omega) (hE.on hw1)).mono ?_
  rintro e w2 ⟨rfl, hw2⟩
  go_wp2
  go_loop [3] (fun a => ∃ k : Nat, k + (digs 2 x).length ≤ 64 ∧ a = .string (bs (ptext k x))) (fun a => 64 - (strOf a).size)
  case atStart => exact ⟨0, by omega, rfl⟩
  case round =>
    obtain ⟨k, hk, rfl⟩ := hrel
    have hs : (bs (ptext k x)).size = k + (digs 2 x).length := by rw [bs_size, ptext_len]
    by_cases hlt : k + (digs 2 x).length < 64
    · have hc := ptext_succ k x
      go_wp2
      go_round
      case rel => exact ⟨k + 1, by omega, rfl⟩
      case measure => simp [strOf, bs_size, ptext_len]; omega
    · obtain rfl : k = 64 - (digs 2 x).length := by omega
      obtain ⟨sA, gA⟩ := padded hx
      generalize bs (ptext (64 - (digs 2 x).length) x) = A at sA gA ⊢
      clear hs hlt hk
      have GA := Lib.hid gA
      clear gA
      go_wp2
      go_loop [4] (fun a => ∃ k : Nat, k + (digs 2 y).length ≤ 64 ∧ a = .string (bs (ptext k y))) (fun a => 64 - (strOf a).size)
      case atStart => exact ⟨0, by omega, rfl⟩
      case round =>
        obtain ⟨k, hk, rfl⟩ := hrel
        have hs : (bs (ptext k y)).size = k + (digs 2 y).length := by rw [bs_size, ptext_len]
        by_cases hlt : k + (digs 2 y).length < 64
        · have hc := ptext_succ k y
          go_wp2
          go_round
          case rel => exact ⟨k + 1, by omega, rfl⟩
          case measure => simp [strOf, bs_size, ptext_len]; omega
        · obtain rfl : k = 64 - (digs 2 y).length := by omega
          obtain ⟨sB, gB⟩ := padded (x := y) (by rw [HY.out]; omega)
          generalize bs (ptext (64 - (digs 2 y).length) y) = B at sB gB ⊢
          clear hs hlt hk
          have GB := Lib.hid gB
          clear gB
          go_wp2
          have hB2 : Below w.heap.size w w2 := hw1.trans (hw2.mono hw1.size)
          go_loopw [27] (fun i wr => ∃ k : Nat, k ≤ 64 ∧ i = .int .i64 k ∧ Below w.heap.size w wr) (fun i _ => 64 - (intOf i).toNat)
          case atStart => exact ⟨0, by omega, rfl, hB2⟩
          case round =>
            obtain ⟨k, hk, rfl, hBr⟩ := hrel
            by_cases hlt : k < 64
            · have gA := GA.out k (by omega) hlt
              have gB := GB.out k (by omega) hlt
              have hat := HA.out k hlt
              simp only [← HY.out] at hat
              rcases hat with ⟨a1, b1⟩ | ⟨a1, b1⟩
              · rw [a1] at gA
                rw [b1] at gB
                have vA : ((A[k]'(by omega)).toNat : Int) = 48 := by rw [gA]; rfl
                have vB : ((B[k]'(by omega)).toNat : Int) = 49 := by rw [gB]; rfl
                clear gA gB a1 b1
                go_wp2
                go_quiet (fail)
                go_wp2
                exact ⟨⟨k + 1, by omega, by go_num, below_drewN hBr _⟩, by simp [intOf]; omega⟩
              · rw [a1] at gA
                rw [b1] at gB
                have vA : ((A[k]'(by omega)).toNat : Int) = 49 := by rw [gA]; rfl
                have vB : ((B[k]'(by omega)).toNat : Int) = 48 := by rw [gB]; rfl
                clear gA gB a1 b1
                go_wp2
                go_quiet (fail)
                go_wp2
                exact ⟨⟨k + 1, by omega, by go_num, below_drewN hBr _⟩, by simp [intOf]; omega⟩
            · go_wp2
              go_ret
              exact ⟨rfl, hBr⟩

theorem walk (x : Int) (wx : (Lit.int .u64 x).wf = true) (w : World) (hE : Env w.heap.size w) :
    Calls Tryd.prog 5 #[.int .u64 x] w fun e w' => e = .returned (.bool true) ∧ Below w.heap.size w w' := by
  obtain ⟨x, rfl, hx⟩ := wf_u64 wx
  exact walkOf x hx w hE
end fnFlipped
namespace fnFlipped
open Go.ChangeShapes Go.WideShapes Go.ChangeAt Go.RowKit
set_option maxRecDepth 100000 in
theorem contract (H : Type) (enc : TypeId × Value → H) (W : World) (base : Nat) (args : Array Value) (ds gs : List (DataW H)) (before : List MemPlace)
    (hval : ∀ (j : Nat) t v, Tryd.f5.params[j]? = some t → args[j]? = some v → Value.okWide Tryd.prog W .any base t v)
    (hW : DataW.Whole enc Tryd.prog Tryd.f5.params.toList Rows.fnFlippedSpec.vars false W args.toList ds gs before) (hL : laidMetH Tryd.prog Rows.fnFlippedRow.laid W) :
    Calls Tryd.prog 5 args W fun e W' => ∃ v, e = .returned v ∧ Rows.fnFlippedSpec.post enc Tryd.prog Tryd.f5 false true false false W args v W' := by
  have hW' := hW
  obtain ⟨p, q, hA0, hV, rfl, hfz, hnd⟩ := hW
  have hA : DataW.TrodAll enc Tryd.prog W 0 (fun _ => true) true Tryd.f5.params.toList args.toList ds p := hA0
  rw [Tryd.params5] at hA hval
  obtain ⟨v0, vs0, d0, ds0, p0, q0, hargs, rfl, rfl, h0, r0⟩ := trodAll_cons hA
  obtain ⟨rfl, rfl, rfl⟩ := trodAll_nil r0
  obtain rfl : args = #[v0] := by cases args; simp_all
  obtain ⟨rfl, rfl⟩ := trodVars_none hV
  obtain ⟨x0, rfl, rfl, rfl, w0⟩ := open_int Tryd.underlying22 (hval 0 22 v0 rfl rfl) h0
  clear hA0
  simp only [List.append_nil] at hW'
  refine (walk x0 w0 W (env_of hL)).mono fun e W' ⟨he, hg⟩ => ?_
  subst he
  refine ⟨_, rfl, _, _, _, [], [], [], hW', ?_, ?_, rfl, hg.frame _, fun h => by cases h⟩
  · exact trodAll_cons_mk (shut_bool Tryd.underlying4 _) trodAll_mk0
  · exact trodAll_cons_mk (shut_int Tryd.underlying22 w0) (trodAll_mk0)

theorem laid_met (os : Os) : laidMet Tryd.prog Rows.fnFlippedRow.laid ((laidWorld os).forCall (fun _ _ => 0) ⟨#[], #[.int .u64 0], []⟩).memory :=
  laidMet_of_run' 8 (by kernel_rfl) (by kernel_rfl)
theorem reads (os : Os) {H : Type} (enc : TypeId × Value → H) : ∃ places, DataW.whole enc Tryd.prog ((laidWorld os).forCall (fun _ _ => 0) ⟨#[], #[.int .u64 0], []⟩).memory Tryd.f5.params.toList Rows.fnFlippedSpec.vars false #[(.int .u64 0 : Value)].toList 8 = some ([.lit (.int .u64 0)], [], places) :=
  ⟨[], by kernel_rfl⟩

set_option maxRecDepth 100000 in
theorem lifted (os : Os) (started : os.Started) (H : Type) (enc : TypeId × Value → H) (F : Stop.Interp) :
    ReturnsInHanded {} Tryd.checked os 5 .any ((OpenSpec.ofChange Rows.fnFlippedSpec).preRow enc Tryd.prog Tryd.f5 Rows.fnFlippedRow.domain false Rows.fnFlippedRow.laid) (((OpenSpec.ofChange Rows.fnFlippedSpec).at F).post enc Tryd.prog Tryd.f5 false true false false) := by
  obtain ⟨places, hx⟩ := reads os enc
  refine returnsInHanded_of_row (C := Tryd.checked) (s := OpenSpec.ofChange Rows.fnFlippedSpec) ownKnobs started (by kernel_rfl) Tryd.func5
    (witness_row_at (enc := enc) (C := Tryd.checked) false (laidWorld os) #[.int .u64 0] rfl (by kernel_rfl) (by kernel_rfl) (by kernel_rfl)
      (OpenSpec.preRow_of_cond 8 hx (by kernel_rfl) (fun k hk => by cases hk) (by kernel_rfl) (laid_met os))) ?_
  intro W base args ds gs before hval hW _ _ _ hL _ _
  exact contract H enc W base args ds gs before hval hW hL

theorem said : Rows.FnFlippedSaid :=
  OpenClaim.holds_of_cond 5 Tryd.f5 rfl rfl rfl rfl rfl rfl rfl ⟨rfl, rfl, rfl, rfl, rfl⟩ rfl rfl rfl rfl rfl (by kernel_rfl) Tryd.func5 (by kernel_rfl)
    (of_decide_eq_true (by kernel_rfl)) (by unfold Func.isWrapper; first | (rw [if_pos (by decide +kernel)]; kernel_rfl) | (rw [if_neg (by decide +kernel)]; exact ⟨rfl, rfl⟩))
    (fun os started H enc _ F => by rw [OpenClaim.pre_eq_preRow]; exact lifted os started H enc F)

theorem plain (f : FuncId) (fn : Func) (hf : Tryd.pinned.checked.prog.funcNamed "loop.example/lib-g01429/laws.FnFlipped" = some f) (hfn : Tryd.pinned.checked.prog.funcs[f]? = some fn) :
    false = Tryd.pinned.checked.prog.looks [] ∧ ∀ (j : Nat) t, fn.params[j]? = some t → Tryd.pinned.checked.prog.wantsStandIn t = false := by
  obtain rfl : f = 5 := Option.some.inj ((show Tryd.prog.funcNamed "loop.example/lib-g01429/laws.FnFlipped" = some 5 by kernel_rfl).symm.trans hf) |>.symm
  obtain rfl : fn = Tryd.f5 := (Option.some.inj (Tryd.func5.symm.trans hfn)).symm
  refine ⟨by kernel_rfl, fun j t ht => ?_⟩
  rw [Tryd.params5] at ht
  obtain rfl : t = 22 := by simpa using Array.mem_of_getElem? ht
  exact (show Tryd.prog.wantsStandIn 22 = false by kernel_rfl)

/-- THE CARD. -/
theorem card : Rows.FnFlippedCardSaid :=
  Claim7.holds_tied_plain_at .later [] _ _ _ _ said (fun _ h => by cases h) (by kernel_rfl) (fun _ h => by cases h) fnFlipped_row_tie rfl ⟨rfl, rfl⟩ (by kernel_rfl) rfl plain (by kernel_rfl)
end fnFlipped
end Go.Proofs.YtjcejkenjmkinaaDoor
