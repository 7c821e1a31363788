/- FnTextsBack returns true for all texts of bounded bulk: quoted texts one behind the other are read back. Conditions: none beyond the card's own. -/
import Derived.Test.YthjkpkkkjndjlaaDoorReadT
namespace Go.Proofs.YthjkpkkkjndjlaaDoor
open Go.RowKit

namespace fnTextsBack
theorem env {W : World} (h : laidMet Tryd.prog Rows.fnTextsBackUptoRow.laid W) : EnvX W :=
  ⟨print_of h (by simp [Rows.fnTextsBackUptoRow]) (by simp [Rows.fnTextsBackUptoRow]) (by simp [Rows.fnTextsBackUptoRow]) (by simp [Rows.fnTextsBackUptoRow]) (by simp [Rows.fnTextsBackUptoRow]), utf8_of h (by simp [Rows.fnTextsBackUptoRow]) (by simp [Rows.fnTextsBackUptoRow])⟩

set_option maxRecDepth 100000 in
theorem walkOf (w : World) (a : Option Addr) (n c : Nat) (T : List ByteArray) (e1 : T.length = n) (hin : StrsIn w a T) (hb : bulkT T ≤ 1048576) (hE : EnvX w) :
    Calls Tryd.prog 9 #[.slice a n c] w fun e w' => e = .returned (.bool true) ∧ Below w.heap.size w w' := by
  have hn : n ≤ 5242880 := by
    have h2 := catQ_len (fun _ => pQ) T T.length (Nat.le_refl _)
    rw [List.take_length] at h2
    omega
  have HIN := Lib.hid hin
  have HB := Lib.hid hb
  have HE := Lib.hid hE
  have E1 := Lib.hid e1
  clear hin hb hE e1
  go_enter Tryd.func9, Tryd.ntmps9
  go_wp2
  go_loopw [3, 5, 8] (fun vt _ vj wr => ∃ (j : Nat) (W : ByteArray), j ≤ n ∧ vj = .int .i64 j ∧ vt = .string W ∧ Hid (W = bs (catQ (fun _ => pQ) T 0 j)) ∧ Below w.heap.size w wr) (fun _ _ vj _ => n - (intOf vj).toNat)
  case atStart => exact ⟨0, ⟨#[]⟩, by omega, rfl, rfl, rfl, Below.refl _ _⟩
  case round =>
    obtain ⟨j, W, hj, rfl, rfl, HW, hbel⟩ := hrel
    by_cases hlt : j < n
    · have j3 : j < T.length := by rw [E1.out]; omega
      obtain ⟨b3, o3, rfl, k3⟩ := (HIN.out.on hbel) j j3
      have hsn := catQ_snoc (fun _ => pQ) T j j3
      have hln := catQ_len (fun _ => pQ) T (j + 1) (by omega)
      have hbl := bulk_le T (j + 1)
      have hbm := bulk_mem T j j3
      have hb0 := HB.out
      have h4 : (T[j]'j3).data.toList.length = (T[j]'j3).size := Array.length_toList
      have hF := Quote_any Lib.goPrintTabs grTab (T[j]'j3).data.toList wr (by omega) (HE.out.on hbel).print (HE.out.on hbel).utf8
      rw [bs_eta] at hF
      have hX : bs (catQ (fun _ => pQ) T 0 (j + 1)) = W ++ bs (nb (qZ pQ (T[j]'j3).data.toList)) := by rw [hsn, ← bs_append, HW.out]
      have hsz : (bs (catQ (fun _ => pQ) T 0 (j + 1))).size ≤ 10485760 := by rw [bs_size]; omega
      rw [hX, ByteArray.size_append] at hsz
      have HX := Lib.hid hX
      have HF := Lib.hid hF
      clear hX hF hsn hln hbl hbm hb0 h4
      generalize T[j] = S at *
      generalize bs (nb (qZ pQ S.data.toList)) = Q at *
      go_wp2_with (go_at_call 11; refine HF.out.mono ?_; rintro e w1 ⟨rfl, hw1⟩)
      exact ⟨⟨j + 1, _, by omega, by go_num, rfl, HX.out.symm, hbel.trans (hw1.mono hbel.size)⟩, by simp [intOf]; omega⟩
    · obtain rfl : j = n := by omega
      have cR := readTexts_any (fun _ => pQ) (fun _ => okQ) a j c T E1.out wr (HIN.out.on hbel) HB.out (HE.out.on hbel).utf8
      rw [← HW.out] at cR
      have CR := Lib.hid cR
      clear cR
      go_wp2_with (go_at_call 14; refine CR.out.mono ?_; rintro e w1 ⟨rfl, hw1⟩)
      go_ret
      exact ⟨rfl, hbel.trans (hw1.mono hbel.size)⟩

theorem walk (a1 : Option Addr) (n1 c1 : Nat) (T : List ByteArray) (e1 : T.length = n1) (_l1 : n1 ≤ c1) (_m1 : c1 ≤ maxLen) (w : World) (i1 : StrsIn w a1 T) (_wf1 : ∀ x ∈ T, x.size ≤ maxLen) (b1 : (T.map (fun s => s.size + 1)).sum ≤ 1048576) (hE : EnvX w) :
    Calls Tryd.prog 9 #[.slice a1 n1 c1] w fun e w' => e = .returned (.bool true) ∧ Below w.heap.size w w' :=
  walkOf w a1 n1 c1 T e1 i1 b1 hE
end fnTextsBack
namespace fnTextsBack
open Go.ChangeShapes Go.WideShapes Go.ChangeAt Go.RowKit
set_option maxRecDepth 100000 in
theorem contract (H : Type) (enc : TypeId × Value → H) (W : World) (base : Nat) (args : Array Value) (ds gs : List (DataW H)) (before : List MemPlace)
    (hval : ∀ (j : Nat) t v, Tryd.f9.params[j]? = some t → args[j]? = some v → Value.okWide Tryd.prog W .any base t v)
    (hW : DataW.Whole enc Tryd.prog Tryd.f9.params.toList Rows.fnTextsBackSpec.vars false W args.toList ds gs before) (hL : laidMet Tryd.prog Rows.fnTextsBackUptoRow.laid W) (hk : Rows.uptoSmall H (ds ++ gs) = true) :
    Calls Tryd.prog 9 args W fun e W' => ∃ v, e = .returned v ∧ Rows.fnTextsBackSpec.post enc Tryd.prog Tryd.f9 false true false false W args v W' := by
  have hW' := hW
  obtain ⟨p, q, hA0, hV, rfl, hfz, hnd⟩ := hW
  have hA : DataW.TrodAll enc Tryd.prog W 0 (fun _ => true) true Tryd.f9.params.toList args.toList ds p := hA0
  rw [Tryd.params9] at hA hval
  obtain ⟨v0, vs0, d0, ds0, p0, q0, hargs, rfl, rfl, h0, r0⟩ := trodAll_cons hA
  obtain ⟨rfl, rfl, rfl⟩ := trodAll_nil r0
  obtain rfl : args = #[v0] := by cases args; simp_all
  obtain ⟨rfl, rfl⟩ := trodVars_none hV
  obtain ⟨a0, len0, cap0, rfl⟩ := okWide_slice Tryd.underlying22 (hval 0 22 v0 rfl rfl)
  obtain ⟨xs0, ex0, lc0, cm0, in0, wf0, bk0⟩ := opened_strs Tryd.underlying22 Tryd.underlying9 (by kernel_rfl) h0
  have bd0 : (xs0.map (fun s => s.size + 1)).sum ≤ 1048576 := by have hs := small hk; simp only [Rows.uptoBulkAll, List.append_nil] at hs; omega
  clear hA0
  simp only [List.append_nil] at hW'
  have hlt := fun x hx => hW'.lt x hx
  refine (walk a0 len0 cap0 xs0 ex0 lc0 cm0 W in0 wf0 bd0 (env hL)).mono fun e W' ⟨he, hg⟩ => ?_
  subst he
  have hback := trodAll_cons_mk (Below.trod laidOut (by kernel_rfl) (of_decide_eq_true (by kernel_rfl)) h0 hg (fun x hx => hlt x (by simp [hx]))) (trodAll_mk0)
  exact ⟨_, rfl, _, _, _, [], _, [], hW', trodAll_cons_mk (shut_bool Tryd.underlying4 _) trodAll_mk0, hback, rfl, hg.frame _, fun h => by cases h⟩

theorem plainList : laidMetH Tryd.prog Rows.fnTextsBackUptoRow.laid = laidMet Tryd.prog Rows.fnTextsBackUptoRow.laid := funext fun _ => MakeChecks.laidMetH_plain _ _ _ (by kernel_rfl)
theorem laid_met (os : Os) : laidMetH Tryd.prog Rows.fnTextsBackUptoRow.laid ((World.laidAll Tryd.prog os Rows.fnTextsBackUptoRow.laid).forCall (fun _ _ => 0) ⟨#[], #[.slice none 0 0], []⟩).memory := by
  rw [plainList]; exact laidMet_laidAll _ (by kernel_rfl) (by kernel_rfl)
theorem reads (os : Os) {H : Type} (enc : TypeId × Value → H) : ∃ places, DataW.whole enc Tryd.prog ((World.laidAll Tryd.prog os Rows.fnTextsBackUptoRow.laid).forCall (fun _ _ => 0) ⟨#[], #[.slice none 0 0], []⟩).memory Tryd.f9.params.toList Rows.fnTextsBackSpec.vars false #[(.slice none 0 0 : Value)].toList 8 = some ([.nil], [], places) :=
  ⟨[], by kernel_rfl⟩

set_option maxRecDepth 100000 in
theorem lifted (os : Os) (started : os.Started) (H : Type) (enc : TypeId × Value → H) (F : Stop.Interp) :
    ReturnsInHanded {} Tryd.checked os 9 .any ((Rows.OpenSpec.upto Rows.fnTextsBackSpec).preRow enc Tryd.prog Tryd.f9 Rows.fnTextsBackUptoRow.domain false Rows.fnTextsBackUptoRow.laid) (((Rows.OpenSpec.upto Rows.fnTextsBackSpec).at F).post enc Tryd.prog Tryd.f9 false true false false) := by
  obtain ⟨places, hx⟩ := reads os enc
  refine returnsInHanded_of_row (C := Tryd.checked) (s := Rows.OpenSpec.upto Rows.fnTextsBackSpec) ownKnobs started (by kernel_rfl) Tryd.func9
    (witness_laid #[.slice none 0 0] (World.shaped_of_ZipB (by kernel_rfl) (by kernel_rfl)) (by kernel_rfl)
      (OpenSpec.preRow_of_cond 8 hx (by kernel_rfl) (fun k hk => by cases hk; kernel_rfl) (by kernel_rfl) (laid_met os))) ?_
  intro W base args ds gs before hval hW _ hcond _ hL _ _
  have hL2 : laidMetH Tryd.prog Rows.fnTextsBackUptoRow.laid W := hL
  rw [plainList] at hL2
  exact contract H enc W base args ds gs before hval hW hL2 (hcond _ rfl)

theorem said : Rows.FnTextsBackUptoSaid :=
  OpenClaim.holds_of_cond 9 Tryd.f9 rfl rfl rfl rfl rfl rfl rfl ⟨rfl, rfl, rfl, rfl, rfl⟩ rfl rfl rfl rfl rfl (by kernel_rfl) Tryd.func9 (by kernel_rfl)
    (of_decide_eq_true (by kernel_rfl)) (by unfold Func.isWrapper; first | (rw [if_pos (by decide +kernel)]; kernel_rfl) | (rw [if_neg (by decide +kernel)]; exact ⟨rfl, rfl⟩))
    (fun os started H enc _ F => by rw [OpenClaim.pre_eq_preRow]; exact lifted os started H enc F)

theorem plain (f : FuncId) (fn : Func) (hf : Tryd.pinned.checked.prog.funcNamed "loop.example/lib-g01429/laws.FnTextsBack" = some f) (hfn : Tryd.pinned.checked.prog.funcs[f]? = some fn) :
    true = Tryd.pinned.checked.prog.looks [] ∧ ∀ (j : Nat) t, fn.params[j]? = some t → Tryd.pinned.checked.prog.wantsStandIn t = false := by
  obtain rfl : f = 9 := Option.some.inj ((show Tryd.prog.funcNamed "loop.example/lib-g01429/laws.FnTextsBack" = some 9 by kernel_rfl).symm.trans hf) |>.symm
  obtain rfl : fn = Tryd.f9 := (Option.some.inj (Tryd.func9.symm.trans hfn)).symm
  refine ⟨by kernel_rfl, fun j t ht => ?_⟩
  rw [Tryd.params9] at ht
  obtain rfl : t = 22 := by simpa using Array.mem_of_getElem? ht
  exact (show Tryd.prog.wantsStandIn 22 = false by kernel_rfl)

/-- THE CARD. -/
theorem card : Rows.FnTextsBackUptoCardSaid :=
  Claim7.holds_tied_plain_at .later [] _ _ _ _ said (fun _ h => by cases h) (by kernel_rfl) (fun _ h => by cases h) fnTextsBackUpto_row_tie rfl ⟨rfl, rfl⟩ (by kernel_rfl) rfl plain (by kernel_rfl)
end fnTextsBack
end Go.Proofs.YthjkpkkkjndjlaaDoor
