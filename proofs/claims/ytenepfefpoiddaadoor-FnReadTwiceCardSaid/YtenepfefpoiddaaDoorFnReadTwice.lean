/- FnReadTwice returns true for all lists of words: what is read of words is read of each by itself, and the texts of the numbers are read again as they are. Conditions: none beyond the card's own. -/
import Derived.Test.YtenepfefpoiddaaDoorRead
import Derived.SizedLaws
import Derived.StillTailTactics
namespace Go.Proofs.YtenepfefpoiddaaDoor
open Go.RowKit
namespace fnReadTwice

theorem one_in (wr : World) (S : ByteArray) (e : TypeId) : StrsIn (wr.alloc (.cells #[.string S] e)) (some ⟨wr.heap.size, 0, none⟩) [S] := by
  intro i hi
  obtain rfl : i = 0 := by simpa using hi
  exact ⟨_, _, rfl, new_one _ _ _⟩
theorem own_cell {w : World} {B : Nat} {e : TypeId} {g n cap : Nat} {l : List Int} (h : w.ownsRow B e 1 (.slice (some ⟨g, 0, none⟩) n cap) n (iCells l)) (j : Nat) (hj : j < n) (hl : j < l.length) : w.cell? ⟨g, j, none⟩ = some (.int .i64 (l[j]'hl)) := by
  rw [h.cellAt j (by omega), iCells_get l j hl]
theorem own_some {w : World} {B : Nat} {e : TypeId} {a : Option Addr} {n cap : Nat} {l : List Value} (h : w.ownsRow B e 1 (.slice a n cap) n l) (hn : 0 < n) : ∃ g, a = some ⟨g, 0, none⟩ := by
  obtain ⟨g, c, e⟩ := own_form h hn
  simp at e
  exact ⟨g, e.1⟩

set_option maxHeartbeats 1000000 in
set_option maxRecDepth 100000 in
theorem walkOf (w : World) (a0 : Option Addr) (n cap : Nat) (ws : List ByteArray) (hn : ws.length = n) (lc : n ≤ cap) (hin : StrsIn w a0 ws) (hsz : ∀ s ∈ ws, s.size ≤ 281474976710656) (hlim : n ≤ 8796093022208) (hE : EnvP w) :
    Calls Tryd.prog 10 #[.slice a0 n cap] w fun e w' => e = .returned (.bool true) ∧ Below w.heap.size w w' := by
  obtain ⟨ar, ay, hErr⟩ := hE.errs
  have HR := Lib.hid (ReadNumbers_any w a0 n cap ws hn lc hin hsz hlim ar ay hErr)
  have HN := Lib.hid hn
  have HIN := Lib.hid hin
  have HSZ := Lib.hid hsz
  clear hn hin hsz
  go_enter Tryd.func10, Tryd.ntmps10
  go_wp2_with (go_at_call 29; refine HR.out.mono ?_; rintro e w1 ⟨v1, v2, rfl, o1, o2, hb1⟩; refine Hid.out ?_)
  refine Lib.hid ?_
  obtain ⟨b1, c1, rfl⟩ := own_shape o1
  obtain ⟨b2, c2, rfl⟩ := own_shape o2
  have O1 := Lib.hid o1
  have O2 := Lib.hid o2
  clear o1 o2 HR
  go_wp2
  go_loopw [5, 6, 7, 8, 9, 10, 30] (fun _ _ _ _ _ _ vj wr => ∃ j : Nat, j ≤ n ∧ vj = .int .i64 j ∧ Below w1.heap.size w1 wr) (fun _ _ _ _ _ _ vj _ => n - (intOf vj).toNat)
  case atStart => exact ⟨0, by omega, rfl, Below.refl _ _⟩
  case round =>
    obtain ⟨j, hj, rfl, hbr⟩ := hrel
    have hbel := hb1.trans (hbr.mono hb1.size)
    by_cases hlt : j < n
    · have hjx : j < ws.length := by rw [HN.out]; exact hlt
      obtain ⟨blk, off, rfl, hcell⟩ := (HIN.out.on hbel) j hjx
      obtain ⟨g1, rfl⟩ := own_some O1.out (by omega)
      obtain ⟨g2, rfl⟩ := own_some O2.out (by omega)
      have hrd := readOut_bd (ws[j]'hjx).data.toList
      have C1 : ∀ w2, Below wr.heap.size wr w2 → w2.cell? ⟨g1, j, none⟩ = some (.int .i64 (readOut (ws[j]'hjx).data.toList).1) := fun w2 h2 => by
        have := own_cell (own_below (own_below O1.out hbr) h2) j hlt (by simpa using hjx)
        simpa using this
      have C2 : ∀ w2, Below wr.heap.size wr w2 → w2.cell? ⟨g2, j, none⟩ = some (.int .i64 (readOut (ws[j]'hjx).data.toList).2) := fun w2 h2 => by
        have := own_cell (own_below (own_below O2.out hbr) h2) j hlt (by simpa using hjx)
        simpa using this
      have hR1 := ReadNumbers_any (wr.alloc (.cells #[.string (ws[j]'hjx)] 9)) (some ⟨wr.heap.size, 0, none⟩) 1 1 [ws[j]'hjx] rfl (by omega) (one_in _ _ _) (fun s hs => by rw [List.mem_singleton.1 hs]; exact HSZ.out _ (List.getElem_mem hjx)) (by omega) ar ay ((hErr.on hbel).on ((Below.refl _ _).alloc (Nat.le_refl _) _))
      simp only [List.map_cons, List.map_nil] at hR1
      have hF := fun w2 hw2 => FormatInt_any 10 w.heap.size (readOut (ws[j]'hjx).data.toList).1 w2 (by omega) (by omega) hrd.1 hrd.2 hw2
      have hP := fun w2 => ParseInt_istr 10 (readOut (ws[j]'hjx).data.toList).1 (by omega) (by omega) hrd.1 hrd.2 w2
      have hne := not_empty (S := istr 10 (readOut (ws[j]'hjx).data.toList).1) (by
        rw [istr, bs_size]
        unfold itext
        have := digs_pos 10 (readOut (ws[j]'hjx).data.toList).1.natAbs
        split
        · rw [List.length_cons]; omega
        · rw [text_len]; omega)
      generalize istr 10 (readOut (ws[j]'hjx).data.toList).1 = I at *
      generalize (readOut (ws[j]'hjx).data.toList).1 = x at *
      generalize (readOut (ws[j]'hjx).data.toList).2 = c at *
      generalize ws[j] = S at *
      have HR := Lib.hid hR1
      have HF := Lib.hid hF
      have HP := Lib.hid hP
      have HC1 := Lib.hid C1
      have HC2 := Lib.hid C2
      clear hR1 hF hP C1 C2 hjx
      go_wp2_with (go_at_call 29; refine HR.out.mono ?_; rintro e w2 ⟨u1, u2, rfl, q1, q2, hb2⟩; refine Hid.out ?_)
      refine Lib.hid ?_
      obtain ⟨h1, d1, rfl⟩ := own_form q1 (by omega)
      obtain ⟨h2, d2, rfl⟩ := own_form q2 (by omega)
      have hB2 : Below wr.heap.size wr w2 := ((Below.refl _ _).alloc (Nat.le_refl _) _).trans (hb2.mono (by simp))
      have k1 := HC1.out w2 hB2
      have Q1 := Lib.hid q1
      have Q2 := Lib.hid q2
      clear q1 q2 hcell HR
      have hEn := hE.nums.on (hbel.trans (hB2.mono hbel.size))
      go_wp2_with (go_at_call 24; refine (HF.out _ hEn).mono ?_; rintro e w3 ⟨rfl, hw3⟩; refine Hid.out ?_)
      refine Lib.hid ?_
      have hB3 := hB2.trans (hw3.mono hB2.size)
      clear k1 hEn
      go_wp2_with (go_at_call 25; refine (HP.out _).mono ?_; rintro e w4 ⟨rfl, hw4⟩; refine Hid.out ?_)
      refine Lib.hid ?_
      have hB4 := hB3.trans (hw4.mono hB3.size)
      have k1 := HC1.out w4 hB4
      have k2 := HC2.out w4 hB4
      have k3 := own_cell (own_below (own_below Q1.out hw3) hw4) 0 (by omega) (by simp)
      have k4 := own_cell (own_below (own_below Q2.out hw3) hw4) 0 (by omega) (by simp)
      simp only [List.getElem_cons_zero] at k3 k4
      have hEn := hE.nums.on (hbel.trans (hB4.mono hbel.size))
      go_wp2
      go_still_tail 45, (by kernel_rfl)
      change wpList _ _ _ _ _ w4.drew
      have hB4' : Below wr.heap.size wr w4.drew := hB4.drew
      have hEn' := hE.nums.on (hbel.trans (hB4'.mono hbel.size))
      generalize w4.drew = w4' at *
      clear k1 k2 k3 k4 hEn
      go_wp2_with (go_at_call 24; refine (HF.out _ hEn').mono ?_; rintro e w5 ⟨rfl, hw5⟩)
      have hB5 := hB4'.trans (hw5.mono hB4'.size)
      refine ⟨⟨j + 1, by omega, by go_num, hbr.trans (hB5.mono hbr.size)⟩, ?_⟩
      simp [intOf]; omega
    · go_wp2
      go_ret
      exact ⟨rfl, hbel⟩

/-- The reach of a list of texts. -/
theorem sized {H : Type} {P : Program} {ts : List TypeId} {ds : List (DataW H)} {e t : TypeId} {d : DataW H} {xs ys : List ByteArray} (hu : P.underlying t = some (.slice e)) (hd : d = .slice (Go.ChangeShapes.strs xs) (Go.ChangeShapes.strs ys)) (hb : P.bytesOf e = 16)
    (h : (DataW.weightsEach P (t :: ts) (d :: ds)).all (· ≤ reachBytes) = true) : xs.length * 16 ≤ reachBytes ∧ ∀ s ∈ xs, s.size ≤ reachBytes := by
  subst hd
  have h1 := List.all_eq_true.1 h
  simp only [DataW.weightsEach, DataW.weights, hu, List.mem_append, List.mem_cons, decide_eq_true_eq] at h1
  refine ⟨?_, fun s hs => ?_⟩
  · have h2 := h1 _ (.inl (.inl rfl))
    rw [hb] at h2
    simp [Go.ChangeShapes.strs] at h2
    omega
  · refine h1 _ (.inl (.inr (.inl ?_)))
    clear h h1
    induction xs with
    | nil => cases hs
    | cons x r ih =>
      rw [show Go.ChangeShapes.strs (H := H) (x :: r) = .lit (.string x.data.toList) :: Go.ChangeShapes.strs r from rfl, DataW.weightsAll]
      rcases List.mem_cons.1 hs with rfl | h2
      · exact List.mem_append_left _ (by rw [DataW.weights]; exact List.mem_singleton.2 (Array.length_toList).symm)
      · exact List.mem_append_right _ (ih h2)

open Go.ChangeShapes Go.WideShapes in
theorem opened_strz {H : Type} {enc : TypeId × Value → H} {W : World} {t e : TypeId} {ts : List TypeId} {ds : List (DataW H)} {a0 : Option Addr} {len cap : Nat} {d0 : DataW H} {p : List MemPlace} (ht : Tryd.prog.underlying t = some (.slice e)) (he : Tryd.prog.underlying e = some .string) (hc : Tryd.prog.cellsOf e = 1) (hb : Tryd.prog.bytesOf e = 16)
    (h0 : DataW.Trod enc Tryd.prog W 0 (fun _ => true) true t (.slice a0 len cap) d0 p) (hsz : (DataW.weightsEach Tryd.prog (t :: ts) (d0 :: ds)).all (· ≤ reachBytes) = true) :
    ∃ xs : List ByteArray, xs.length = len ∧ len ≤ cap ∧ StrsIn W a0 xs ∧ xs.length * 16 ≤ reachBytes ∧ ∀ s ∈ xs, s.size ≤ reachBytes := by
  obtain ⟨fuel, hf⟩ := h0
  rcases open_strings ht he hc hf with ⟨hcs, hx⟩ | ⟨a, len', cap', zs, hcs, _, hl, hm, hz, hx, hcell, hwz⟩
  · simp [Value.cells] at hcs
    obtain ⟨rfl, rfl, rfl⟩ := hcs
    exact ⟨[], rfl, Nat.le_refl _, fun i hi => by simp at hi, by simp, fun x hx => by simp at hx⟩
  · simp [Value.cells] at hcs
    obtain ⟨rfl, rfl, rfl⟩ := hcs
    simp only [if_true] at hz
    have hs := sized ht (show d0 = _ from congrArg Prod.fst hx) hb hsz
    refine ⟨zs.take len, by simp; omega, hl, ?_, hs.1, hs.2⟩
    intro i hi
    have hi2 : i < zs.length := by simp at hi; omega
    obtain ⟨b, off, spot⟩ := a
    have hspot : spot = none := by simpa [Addr.add] using World.cell?_spot (hcell 0 (by omega))
    subst hspot
    refine ⟨b, off, rfl, ?_⟩
    rw [← Go.WideShapes.add_plain, hcell i hi2]
    simp [List.getD, hi2]

theorem walk (a0 : Option Addr) (len cap : Nat) (ws : List ByteArray) (ex : ws.length = len) (lc : len ≤ cap) (w : World) (hin : StrsIn w a0 ws) (h16 : ws.length * 16 ≤ reachBytes) (hsz : ∀ s ∈ ws, s.size ≤ reachBytes) (hE : EnvP w) :
    Calls Tryd.prog 10 #[.slice a0 len cap] w fun e w' => e = .returned (.bool true) ∧ Below w.heap.size w w' := by
  have hr := reachBytes_lt
  have e47 : (2 : Nat) ^ 47 = 140737488355328 := by decide
  rw [e47] at hr
  exact walkOf w a0 len cap ws ex lc hin (fun s hs => by have := hsz s hs; omega) (by omega) hE
end fnReadTwice
namespace fnReadTwice
open Go.ChangeShapes Go.WideShapes Go.ChangeAt Go.RowKit
set_option maxRecDepth 100000 in
theorem contract (H : Type) (enc : TypeId × Value → H) (W : World) (base : Nat) (args : Array Value) (ds gs : List (DataW H)) (before : List MemPlace)
    (hval : ∀ (j : Nat) t v, Tryd.f10.params[j]? = some t → args[j]? = some v → Value.okWide Tryd.prog W .any base t v)
    (hW : DataW.Whole enc Tryd.prog Tryd.f10.params.toList Rows.fnReadTwiceSpec.vars false W args.toList ds gs before) (hL : laidMet Tryd.prog Rows.fnReadTwiceRow.laid W) (hsz : (DataW.weightsEach Tryd.prog (Tryd.f10.params.toList ++ (OpenSpec.ofChange Rows.fnReadTwiceSpec).bare.plain.varTypes Tryd.prog) (ds ++ gs)).all (· ≤ reachBytes) = true) :
    Calls Tryd.prog 10 args W fun e W' => ∃ v, e = .returned v ∧ Rows.fnReadTwiceSpec.post enc Tryd.prog Tryd.f10 false true false false W args v W' := by
  have hW' := hW
  obtain ⟨p, q, hA0, hV, rfl, hfz, hnd⟩ := hW
  have hA : DataW.TrodAll enc Tryd.prog W 0 (fun _ => true) true Tryd.f10.params.toList args.toList ds p := hA0
  rw [Tryd.params10] at hA hval hsz
  obtain ⟨v0, vs0, d0, ds0, p0, q0, hargs, rfl, rfl, h0, r0⟩ := trodAll_cons hA
  obtain ⟨rfl, rfl, rfl⟩ := trodAll_nil r0
  obtain rfl : args = #[v0] := by cases args; simp_all
  obtain ⟨rfl, rfl⟩ := trodVars_none hV
  obtain ⟨a0, len0, cap0, rfl⟩ := okWide_slice Tryd.underlying42 (hval 0 42 v0 rfl rfl)
  obtain ⟨xs0, ex0, lc0, in0, hz0, hs0⟩ := opened_strz Tryd.underlying42 Tryd.underlying9 (by kernel_rfl) (by kernel_rfl) h0 hsz
  clear hA0
  simp only [List.append_nil] at hW'
  have hlt := fun x hx => hW'.lt x hx
  refine (walk a0 len0 cap0 xs0 ex0 lc0 W in0 hz0 hs0 (env_parse hL)).mono fun e W' ⟨he, hg⟩ => ?_
  subst he
  have hback := trodAll_cons_mk (Below.trod laidOut (by kernel_rfl) (of_decide_eq_true (by kernel_rfl)) h0 hg (fun x hx => hlt x (by simp [hx]))) (trodAll_mk0)
  exact ⟨_, rfl, _, _, _, [], _, [], hW', trodAll_cons_mk (shut_bool Tryd.underlying4 _) trodAll_mk0, hback, rfl, hg.frame _, fun h => by cases h⟩

theorem plainList : laidMetH Tryd.prog Rows.fnReadTwiceRow.laid = laidMet Tryd.prog Rows.fnReadTwiceRow.laid := funext fun _ => MakeChecks.laidMetH_plain _ _ _ (by kernel_rfl)
theorem laid_met (os : Os) : laidMetH Tryd.prog Rows.fnReadTwiceRow.laid ((World.laidAll Tryd.prog os Rows.fnReadTwiceRow.laid).forCall (fun _ _ => 0) ⟨#[], #[.slice none 0 0], []⟩).memory := by
  rw [plainList]; exact laidMet_laidAll _ (by kernel_rfl) (by kernel_rfl)
theorem reads (os : Os) {H : Type} (enc : TypeId × Value → H) : ∃ places, DataW.whole enc Tryd.prog ((World.laidAll Tryd.prog os Rows.fnReadTwiceRow.laid).forCall (fun _ _ => 0) ⟨#[], #[.slice none 0 0], []⟩).memory Tryd.f10.params.toList Rows.fnReadTwiceSpec.vars false #[(.slice none 0 0 : Value)].toList 8 = some ([.nil], [], places) :=
  ⟨[], by kernel_rfl⟩

set_option maxRecDepth 100000 in
theorem lifted (os : Os) (started : os.Started) (H : Type) (enc : TypeId × Value → H) (F : Stop.Interp) :
    ReturnsInHanded {} Tryd.checked os 10 .any ((OpenSpec.ofChange Rows.fnReadTwiceSpec).preRow enc Tryd.prog Tryd.f10 Rows.fnReadTwiceRow.domain false Rows.fnReadTwiceRow.laid) (((OpenSpec.ofChange Rows.fnReadTwiceSpec).at F).post enc Tryd.prog Tryd.f10 false true false false) := by
  obtain ⟨places, hx⟩ := reads os enc
  refine returnsInHanded_of_row (C := Tryd.checked) (s := OpenSpec.ofChange Rows.fnReadTwiceSpec) ownKnobs started (by kernel_rfl) Tryd.func10
    (witness_laid #[.slice none 0 0] (World.shaped_of_ZipB (by kernel_rfl) (by kernel_rfl)) (by kernel_rfl)
      (OpenSpec.preRow_of_cond 8 hx (by kernel_rfl) (fun k hk => by cases hk) (by kernel_rfl) (laid_met os))) ?_
  intro W base args ds gs before hval hW _ hcond hsz hL _ _
  have hL2 : laidMetH Tryd.prog Rows.fnReadTwiceRow.laid W := hL
  rw [plainList] at hL2
  exact contract H enc W base args ds gs before hval hW hL2 hsz

theorem said : Rows.FnReadTwiceSaid :=
  OpenClaim.holds_of_cond 10 Tryd.f10 rfl rfl rfl rfl rfl rfl rfl ⟨rfl, rfl, rfl, rfl, rfl⟩ rfl rfl rfl rfl rfl (by kernel_rfl) Tryd.func10 (by kernel_rfl)
    (of_decide_eq_true (by kernel_rfl)) (by unfold Func.isWrapper; first | (rw [if_pos (by decide +kernel)]; kernel_rfl) | (rw [if_neg (by decide +kernel)]; exact ⟨rfl, rfl⟩))
    (fun os started H enc _ F => by rw [OpenClaim.pre_eq_preRow]; exact lifted os started H enc F)

theorem plain (f : FuncId) (fn : Func) (hf : Tryd.pinned.checked.prog.funcNamed "loop.example/lib-g01429/laws.FnReadTwice" = some f) (hfn : Tryd.pinned.checked.prog.funcs[f]? = some fn) :
    true = Tryd.pinned.checked.prog.looks [] ∧ ∀ (j : Nat) t, fn.params[j]? = some t → Tryd.pinned.checked.prog.wantsStandIn t = false := by
  obtain rfl : f = 10 := Option.some.inj ((show Tryd.prog.funcNamed "loop.example/lib-g01429/laws.FnReadTwice" = some 10 by kernel_rfl).symm.trans hf) |>.symm
  obtain rfl : fn = Tryd.f10 := (Option.some.inj (Tryd.func10.symm.trans hfn)).symm
  refine ⟨by kernel_rfl, fun j t ht => ?_⟩
  rw [Tryd.params10] at ht
  obtain rfl : t = 42 := by simpa using Array.mem_of_getElem? ht
  exact (show Tryd.prog.wantsStandIn 42 = false by kernel_rfl)

/-- THE CARD. -/
theorem card : Rows.FnReadTwiceCardSaid :=
  Claim7.holds_tied_plain_at .later [] _ _ _ _ said (fun _ h => by cases h) (by kernel_rfl) (fun _ h => by cases h) fnReadTwice_row_tie rfl ⟨rfl, rfl⟩ (by kernel_rfl) rfl plain (by kernel_rfl)
end fnReadTwice
end Go.Proofs.YtenepfefpoiddaaDoor
