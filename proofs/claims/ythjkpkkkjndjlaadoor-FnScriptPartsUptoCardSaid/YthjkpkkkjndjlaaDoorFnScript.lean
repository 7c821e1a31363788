/- FnScript returns true for all scripts of bounded bulk: what a script appends is what its steps give by themselves, one behind the other. Conditions: none beyond the card's own. (Printed by fnscript.py.) -/
import Derived.Test.YthjkpkkkjndjlaaDoorScript
namespace Go.Proofs.YthjkpkkkjndjlaaDoor
open Go.RowKit

/-- A buffer of the call's own, made a string. -/
theorem buf_any {B : Nat} {v : Value} {l : List Int} {W0 w : World} (h : Lib.OwnBuf B 5 v (Lib.intCells l).length (Lib.intCells l) W0 w) :
    (convert 40 9 v).run Tryd.prog w = .ok (.string (bs (nb l))) w := by
  by_cases hl : 0 < l.length
  · exact buf_str h hl
  · obtain rfl : l = [] := List.eq_nil_of_length_eq_zero (by omega)
    rcases h.1.2 with ⟨hv, _⟩ | ⟨g, cap, cur, fz, hv, _⟩
    · rw [hv]; kernel_rfl
    · rw [hv]
      exact run_convert_bytes_arg w 40 5 Tryd.underlying40 Tryd.underlying5 g 0 _ cap [] rfl (fun j hj => by simp at hj) 9 Tryd.underlying9

namespace fnScript

set_option maxHeartbeats 2000000 in
set_option maxRecDepth 100000 in
theorem walkOf (w : World) (a1 a2 a3 : Option Addr) (n1 n2 n3 c1 c2 c3 : Nat) (K N : List Int) (T : List ByteArray) (e1 : K.length = n1) (e2 : N.length = n2) (e3 : T.length = n3)
    (i1 : IntsIn w a1 K) (i2 : IntsIn w a2 N) (i3 : StrsIn w a3 T) (hwf : ∀ x ∈ N, (Lit.int .i64 x).wf = true) (hb1 : n1 ≤ 1048576) (hb3 : bulkT T ≤ 1048576) (hE : EnvS w) :
    Calls Tryd.prog 8 #[.slice a1 n1 c1, .slice a2 n2 c2, .slice a3 n3 c3] w fun e w' => e = .returned (.bool true) ∧ Below w.heap.size w w' := by
  obtain ⟨m, hm⟩ : ∃ m, m = min (min n1 n2) n3 := ⟨_, rfl⟩
  have hA : ∀ w1, Below w.heap.size w w1 → Calls Tryd.prog 22 #[.slice a1 n1 c1, .slice a2 n2 c2, .slice a3 n3 c3] w1 (BufPost w1.heap.size w1 (Lib.intCells (scriptZ K N T m))) := fun w1 h1 => by
    rw [hm]; exact AppendScript_any w1 a1 a2 a3 n1 n2 n3 c1 c2 c3 K N T e1 e2 e3 (i1.on h1) (i2.on h1) (i3.on h1) hwf hb1 hb3 (hE.on h1)
  have hmi : (if (n3 : Int) < (if n2 < n1 then (n2 : Int) else (n1 : Int)) then (n3 : Int) else if n2 < n1 then (n2 : Int) else (n1 : Int)) = (m : Int) := by split <;> split at * <;> omega
  have g1 : m ≤ n1 := by omega
  have g2 : m ≤ n2 := by omega
  have g3 : m ≤ n3 := by omega
  have HA := Lib.hid hA
  have H1 := Lib.hid i1
  have H2 := Lib.hid i2
  have H3 := Lib.hid i3
  have HW := Lib.hid hwf
  have E1 := Lib.hid e1
  have E2 := Lib.hid e2
  have E3 := Lib.hid e3
  have HEN := Lib.hid hE
  clear hm hA i1 i2 i3 hwf e1 e2 e3 hE
  go_enter Tryd.func8, Tryd.ntmps8
  go_wp2
  clear hmi
  go_loopw [7, 8, 16] (fun vt _ vj wr => ∃ (j : Nat) (W : ByteArray), j ≤ m ∧ vj = .int .i64 j ∧ vt = .string W ∧ Hid (W = bs (nb (scriptZ K N T j))) ∧ Below w.heap.size w wr) (fun _ _ vj _ => m - (intOf vj).toNat)
  case atStart => exact ⟨0, ⟨#[]⟩, by omega, rfl, rfl, rfl, Below.refl _ _⟩
  case round =>
    obtain ⟨j, W, hj, rfl, rfl, HW0, hbel⟩ := hrel
    by_cases hlt : j < m
    · have j1 : j < K.length := by rw [E1.out]; omega
      have j2 : j < N.length := by rw [E2.out]; omega
      have j3 : j < T.length := by rw [E3.out]; omega
      obtain ⟨b1, o1, rfl, k1⟩ := (H1.out.on hbel) j j1
      obtain ⟨b2, o2, rfl, k2⟩ := (H2.out.on hbel) j j2
      obtain ⟨b3, o3, rfl, k3⟩ := (H3.out.on hbel) j j3
      have hx := wf_i64 (HW.out _ (List.getElem_mem j2))
      have hsl := scriptZ_len K N T HW.out j (by omega) (by omega) (by omega)
      have hbt := bulk_le T j
      have hsz := bulk_mem T j j3
      have hX := scriptZ_succ K N T j j1 j2 j3
      have hts : (T[j]'j3).data.toList.length = (T[j]'j3).size := Array.length_toList
      rw [← hts] at hsz
      have hsl2 := stepZ_len (K[j]'j1) (N[j]'j2) (T[j]'j3).data.toList hx.1 hx.2
      clear hts
      have hbe : bs (T[j]'j3).data.toList = (T[j]'j3) := bs_eta _
      have hWs : W.size ≤ 78643200 := by
        have h9 : W.size = (scriptZ K N T j).length := by rw [HW0.out, bs_size]; simp [nb]
        omega
      generalize K[j] = k at *
      generalize N[j] = x at *
      generalize hS : T[j] = S0 at *
      have HX := Lib.hid hX
      clear hX hS
      obtain ⟨l, hl⟩ : ∃ l, l = S0.data.toList := ⟨_, rfl⟩
      rw [← hl] at HX hsz hbe hsl2
      clear hl
      subst hbe
      have hll : l.length ≤ 1048576 := by omega
      clear hsl hbt hsz
      have f1 : decide (j < n1) = true := by simp; omega
      have f2 : decide (j < n2) = true := by simp; omega
      have f3 : decide (j < n3) = true := by simp; omega
      by_cases q0 : k = 0
      · subst q0
        have hF := FormatInt_any 10 w.heap.size x wr (by omega) (by omega) hx.1 hx.2 (HEN.out.nums.on hbel)
        have hst : bs (nb (stepZ 0 x l)) = istr 10 x := by rw [stepZ, if_pos rfl, nb_zI]; rfl
        generalize istr 10 x = S at *
        have hss : S.size ≤ 10 * l.length + 65 := by rw [← hst, bs_size]; simp only [nb, List.length_map]; exact hsl2.2
        have HST := Lib.hid hst
        have HF := Lib.hid hF
        clear hst hsl2 hF
        go_wp2_with (go_at_call 16; refine HF.out.mono ?_; rintro e w2 ⟨rfl, hw2⟩; refine Hid.out ?_)
        refine Lib.hid ?_
        go_wp2
        refine ⟨⟨j + 1, _, by omega, by go_num, rfl, ?_, hbel.trans (hw2.mono hbel.size)⟩, by simp [intOf]; omega⟩
        show _ = _
        rw [HX.out, nb_append, ← bs_append, ← HW0.out, HST.out]
      by_cases q1 : k = 1
      · subst q1
        obtain ⟨u, hu⟩ : ∃ u : Nat, (x % 18446744073709551616).toNat = u := ⟨_, rfl⟩
        have hwu : IntKind.u64.wrap x = (u : Int) := by rw [IntKind.wrap_u64]; omega
        have hF := FormatUint_any 16 u w.heap.size wr (by omega) (by omega) (by omega) (HEN.out.nums.on hbel)
        have hst : bs (nb (stepZ 1 x l)) = str 16 u := by rw [stepZ, if_neg (by decide), if_pos rfl, nb_zI, hu]; rfl
        generalize str 16 u = S at *
        have hss : S.size ≤ 10 * l.length + 65 := by rw [← hst, bs_size]; simp only [nb, List.length_map]; exact hsl2.2
        have HST := Lib.hid hst
        have HF := Lib.hid hF
        clear hst hsl2 hF
        go_wp2_with (go_at_call 20; refine HF.out.mono ?_; rintro e w2 ⟨rfl, hw2⟩; refine Hid.out ?_)
        refine Lib.hid ?_
        go_wp2
        refine ⟨⟨j + 1, _, by omega, by go_num, rfl, ?_, hbel.trans (hw2.mono hbel.size)⟩, by simp [intOf]; omega⟩
        show _ = _
        rw [HX.out, nb_append, ← bs_append, ← HW0.out, HST.out]
      have p0 : (k == 0) = false := by simpa using q0
      have p1 : (k == 1) = false := by simpa using q1
      by_cases q2 : k = 2
      · subst q2
        have hF := Quote_any Lib.goPrintTabs grTab l wr (by omega) (HEN.out.print.on hbel) (HEN.out.utf8.on hbel)
        have hst : bs (nb (stepZ 2 x l)) = bs (nb (qZ (pr Lib.goPrintTabs grTab false false) l)) := by rw [stepZ, if_neg (by decide), if_neg (by decide), if_pos rfl]
        generalize bs (nb (qZ (pr Lib.goPrintTabs grTab false false) l)) = S at *
        have hss : S.size ≤ 10 * l.length + 65 := by rw [← hst, bs_size]; simp only [nb, List.length_map]; exact hsl2.2
        have HST := Lib.hid hst
        have HF := Lib.hid hF
        clear hst hsl2 hF
        go_wp2_with (go_at_call 11; refine HF.out.mono ?_; rintro e w2 ⟨rfl, hw2⟩; refine Hid.out ?_)
        refine Lib.hid ?_
        go_wp2
        refine ⟨⟨j + 1, _, by omega, by go_num, rfl, ?_, hbel.trans (hw2.mono hbel.size)⟩, by simp [intOf]; omega⟩
        show _ = _
        rw [HX.out, nb_append, ← bs_append, ← HW0.out, HST.out]
      have p2 : (k == 2) = false := by simpa using q2
      by_cases q3 : k = 3
      · subst q3
        have hF := QuoteToASCII_any Lib.goPrintTabs grTab l wr (by omega) (HEN.out.utf8.on hbel)
        have hst : bs (nb (stepZ 3 x l)) = bs (nb (qZ (pr Lib.goPrintTabs grTab true false) l)) := by rw [stepZ, if_neg (by decide), if_neg (by decide), if_neg (by decide), if_pos rfl]
        generalize bs (nb (qZ (pr Lib.goPrintTabs grTab true false) l)) = S at *
        have hss : S.size ≤ 10 * l.length + 65 := by rw [← hst, bs_size]; simp only [nb, List.length_map]; exact hsl2.2
        have HST := Lib.hid hst
        have HF := Lib.hid hF
        clear hst hsl2 hF
        go_wp2_with (go_at_call 12; refine HF.out.mono ?_; rintro e w2 ⟨rfl, hw2⟩; refine Hid.out ?_)
        refine Lib.hid ?_
        go_wp2
        refine ⟨⟨j + 1, _, by omega, by go_num, rfl, ?_, hbel.trans (hw2.mono hbel.size)⟩, by simp [intOf]; omega⟩
        show _ = _
        rw [HX.out, nb_append, ← bs_append, ← HW0.out, HST.out]
      have p3 : (k == 3) = false := by simpa using q3
      by_cases q4 : k = 4
      · subst q4
        cases hb : (x.tmod 2 != 0)
        · have hs5 : (⟨#[102, 97, 108, 115, 101]⟩ : ByteArray).size = 5 := rfl
          have hst : bs (nb (stepZ 4 x l)) = ⟨#[102, 97, 108, 115, 101]⟩ := by rw [stepZ, if_neg (by decide), if_neg (by decide), if_neg (by decide), if_neg (by decide), if_pos rfl, nb_zI, hb]; rfl
          obtain ⟨S, hS⟩ : ∃ S : ByteArray, S = ⟨#[102, 97, 108, 115, 101]⟩ := ⟨_, rfl⟩
          rw [← hS] at hst
          have hss : S.size ≤ 10 * l.length + 65 := by rw [← hst, bs_size]; simp only [nb, List.length_map]; exact hsl2.2
          have HST := Lib.hid hst
          clear hst hsl2
          go_wp2
          refine ⟨⟨j + 1, _, by omega, by go_num, rfl, ?_, hbel⟩, by simp [intOf]; omega⟩
          show _ = _
          rw [HX.out, nb_append, ← bs_append, ← HW0.out, HST.out, hS]
        · have hs5 : (⟨#[116, 114, 117, 101]⟩ : ByteArray).size = 4 := rfl
          have hst : bs (nb (stepZ 4 x l)) = ⟨#[116, 114, 117, 101]⟩ := by rw [stepZ, if_neg (by decide), if_neg (by decide), if_neg (by decide), if_neg (by decide), if_pos rfl, nb_zI, hb]; rfl
          obtain ⟨S, hS⟩ : ∃ S : ByteArray, S = ⟨#[116, 114, 117, 101]⟩ := ⟨_, rfl⟩
          rw [← hS] at hst
          have hss : S.size ≤ 10 * l.length + 65 := by rw [← hst, bs_size]; simp only [nb, List.length_map]; exact hsl2.2
          have HST := Lib.hid hst
          clear hst hsl2
          go_wp2
          refine ⟨⟨j + 1, _, by omega, by go_num, rfl, ?_, hbel⟩, by simp [intOf]; omega⟩
          show _ = _
          rw [HX.out, nb_append, ← bs_append, ← HW0.out, HST.out, hS]
      have p4 : (k == 4) = false := by simpa using q4
      have hF := FormatInt_any 36 w.heap.size x wr (by omega) (by omega) hx.1 hx.2 (HEN.out.nums.on hbel)
      have hst : bs (nb (stepZ k x l)) = istr 36 x := by rw [stepZ, if_neg q0, if_neg q1, if_neg q2, if_neg q3, if_neg q4, nb_zI]; rfl
      generalize istr 36 x = S at *
      have hss : S.size ≤ 10 * l.length + 65 := by rw [← hst, bs_size]; simp only [nb, List.length_map]; exact hsl2.2
      have HST := Lib.hid hst
      have HF := Lib.hid hF
      clear hst hsl2 hF
      go_wp2_with (go_at_call 16; refine HF.out.mono ?_; rintro e w2 ⟨rfl, hw2⟩; refine Hid.out ?_)
      refine Lib.hid ?_
      go_wp2
      refine ⟨⟨j + 1, _, by omega, by go_num, rfl, ?_, hbel.trans (hw2.mono hbel.size)⟩, by simp [intOf]; omega⟩
      show _ = _
      rw [HX.out, nb_append, ← bs_append, ← HW0.out, HST.out]
    · obtain rfl : j = m := by omega
      have HF := Lib.hid (HA.out wr hbel)
      go_wp2_with (go_at_call 22; refine HF.out.mono ?_; rintro e w2 ⟨v2, rfl, hb2⟩; refine Hid.out ?_)
      refine Lib.hid ?_
      have hcv := buf_any hb2
      rw [← HW0.out] at hcv
      have hB := hb2.2.1
      clear hb2
      go_wp2
      go_ret
      exact ⟨rfl, hbel.trans (hB.mono hbel.size)⟩

theorem walk (a1 : Option Addr) (n1 c1 : Nat) (K : List Int) (e1 : K.length = n1) (_l1 : n1 ≤ c1) (_m1 : c1 ≤ maxLen) (w : World) (i1 : IntsIn w a1 K) (_wf1 : ∀ x ∈ K, (Lit.int .i64 x).wf = true) (b1 : K.length ≤ 1048576)
    (a2 : Option Addr) (n2 c2 : Nat) (N : List Int) (e2 : N.length = n2) (_l2 : n2 ≤ c2) (_m2 : c2 ≤ maxLen) (w' : World) (hw : w' = w) (i2 : IntsIn w' a2 N) (wf2 : ∀ x ∈ N, (Lit.int .i64 x).wf = true) (_b2 : N.length ≤ 1048576)
    (a3 : Option Addr) (n3 c3 : Nat) (T : List ByteArray) (e3 : T.length = n3) (_l3 : n3 ≤ c3) (_m3 : c3 ≤ maxLen) (w'' : World) (hw' : w'' = w) (i3 : StrsIn w'' a3 T) (_wf3 : ∀ x ∈ T, x.size ≤ maxLen) (b3 : (T.map (fun s => s.size + 1)).sum ≤ 1048576) (hE : EnvS w) :
    Calls Tryd.prog 8 #[.slice a1 n1 c1, .slice a2 n2 c2, .slice a3 n3 c3] w fun e w' => e = .returned (.bool true) ∧ Below w.heap.size w w' := by
  subst hw hw'
  exact walkOf _ a1 a2 a3 n1 n2 n3 c1 c2 c3 K N T e1 e2 e3 i1 i2 i3 wf2 (by omega) b3 hE
end fnScript
namespace fnScript
open Go.ChangeShapes Go.WideShapes Go.ChangeAt Go.RowKit
set_option maxRecDepth 100000 in
theorem contract (H : Type) (enc : TypeId × Value → H) (W : World) (base : Nat) (args : Array Value) (ds gs : List (DataW H)) (before : List MemPlace)
    (hval : ∀ (j : Nat) t v, Tryd.f8.params[j]? = some t → args[j]? = some v → Value.okWide Tryd.prog W .any base t v)
    (hW : DataW.Whole enc Tryd.prog Tryd.f8.params.toList Rows.fnScriptSpec.vars false W args.toList ds gs before) (hL : laidMet Tryd.prog Rows.fnScriptUptoRow.laid W) (hk : Rows.uptoSmall H (ds ++ gs) = true) :
    Calls Tryd.prog 8 args W fun e W' => ∃ v, e = .returned v ∧ Rows.fnScriptSpec.post enc Tryd.prog Tryd.f8 false true false false W args v W' := by
  have hW' := hW
  obtain ⟨p, q, hA0, hV, rfl, hfz, hnd⟩ := hW
  have hA : DataW.TrodAll enc Tryd.prog W 0 (fun _ => true) true Tryd.f8.params.toList args.toList ds p := hA0
  rw [Tryd.params8] at hA hval
  obtain ⟨v0, vs0, d0, ds0, p0, q0, hargs, rfl, rfl, h0, r0⟩ := trodAll_cons hA
  obtain ⟨v1, vs1, d1, ds1, p1, q1, rfl, rfl, rfl, h1, r1⟩ := trodAll_cons r0
  obtain ⟨v2, vs2, d2, ds2, p2, q2, rfl, rfl, rfl, h2, r2⟩ := trodAll_cons r1
  obtain ⟨rfl, rfl, rfl⟩ := trodAll_nil r2
  obtain rfl : args = #[v0, v1, v2] := by cases args; simp_all
  obtain ⟨rfl, rfl⟩ := trodVars_none hV
  obtain ⟨a0, len0, cap0, rfl⟩ := okWide_slice Tryd.underlying23 (hval 0 23 v0 rfl rfl)
  obtain ⟨xs0, ex0, lc0, cm0, in0, wf0, bk0⟩ := opened_ints Tryd.underlying23 Tryd.underlying3 (by kernel_rfl) h0
  have bd0 : xs0.length ≤ 1048576 := by have hs := small hk; simp only [Rows.uptoBulkAll, List.append_nil] at hs; omega
  obtain ⟨a1, len1, cap1, rfl⟩ := okWide_slice Tryd.underlying27 (hval 1 27 v1 rfl rfl)
  obtain ⟨xs1, ex1, lc1, cm1, in1, wf1, bk1⟩ := opened_ints Tryd.underlying27 Tryd.underlying2 (by kernel_rfl) h1
  have bd1 : xs1.length ≤ 1048576 := by have hs := small hk; simp only [Rows.uptoBulkAll, List.append_nil] at hs; omega
  obtain ⟨a2, len2, cap2, rfl⟩ := okWide_slice Tryd.underlying22 (hval 2 22 v2 rfl rfl)
  obtain ⟨xs2, ex2, lc2, cm2, in2, wf2, bk2⟩ := opened_strs Tryd.underlying22 Tryd.underlying9 (by kernel_rfl) h2
  have bd2 : (xs2.map (fun s => s.size + 1)).sum ≤ 1048576 := by have hs := small hk; simp only [Rows.uptoBulkAll, List.append_nil] at hs; omega
  clear hA0
  simp only [List.append_nil] at hW'
  have hlt := fun x hx => hW'.lt x hx
  refine (walk a0 len0 cap0 xs0 ex0 lc0 cm0 W in0 wf0 bd0 a1 len1 cap1 xs1 ex1 lc1 cm1 W rfl in1 wf1 bd1 a2 len2 cap2 xs2 ex2 lc2 cm2 W rfl in2 wf2 bd2 (env_script hL)).mono fun e W' ⟨he, hg⟩ => ?_
  subst he
  have hback := trodAll_cons_mk (Below.trod laidOut (by kernel_rfl) (of_decide_eq_true (by kernel_rfl)) h0 hg (fun x hx => hlt x (by simp [hx]))) (trodAll_cons_mk (Below.trod laidOut (by kernel_rfl) (of_decide_eq_true (by kernel_rfl)) h1 hg (fun x hx => hlt x (by simp [hx]))) (trodAll_cons_mk (Below.trod laidOut (by kernel_rfl) (of_decide_eq_true (by kernel_rfl)) h2 hg (fun x hx => hlt x (by simp [hx]))) (trodAll_mk0)))
  exact ⟨_, rfl, _, _, _, [], _, [], hW', trodAll_cons_mk (shut_bool Tryd.underlying4 _) trodAll_mk0, hback, rfl, hg.frame _, fun h => by cases h⟩

theorem plainList : laidMetH Tryd.prog Rows.fnScriptUptoRow.laid = laidMet Tryd.prog Rows.fnScriptUptoRow.laid := funext fun _ => MakeChecks.laidMetH_plain _ _ _ (by kernel_rfl)
theorem laid_met (os : Os) : laidMetH Tryd.prog Rows.fnScriptUptoRow.laid ((World.laidAll Tryd.prog os Rows.fnScriptUptoRow.laid).forCall (fun _ _ => 0) ⟨#[], #[.slice none 0 0, .slice none 0 0, .slice none 0 0], []⟩).memory := by
  rw [plainList]; exact laidMet_laidAll _ (by kernel_rfl) (by kernel_rfl)
theorem reads (os : Os) {H : Type} (enc : TypeId × Value → H) : ∃ places, DataW.whole enc Tryd.prog ((World.laidAll Tryd.prog os Rows.fnScriptUptoRow.laid).forCall (fun _ _ => 0) ⟨#[], #[.slice none 0 0, .slice none 0 0, .slice none 0 0], []⟩).memory Tryd.f8.params.toList Rows.fnScriptSpec.vars false #[(.slice none 0 0 : Value), (.slice none 0 0 : Value), (.slice none 0 0 : Value)].toList 8 = some ([.nil, .nil, .nil], [], places) :=
  ⟨[], by kernel_rfl⟩

set_option maxRecDepth 100000 in
theorem lifted (os : Os) (started : os.Started) (H : Type) (enc : TypeId × Value → H) (F : Stop.Interp) :
    ReturnsInHanded {} Tryd.checked os 8 .any ((Rows.OpenSpec.upto Rows.fnScriptSpec).preRow enc Tryd.prog Tryd.f8 Rows.fnScriptUptoRow.domain false Rows.fnScriptUptoRow.laid) (((Rows.OpenSpec.upto Rows.fnScriptSpec).at F).post enc Tryd.prog Tryd.f8 false true false false) := by
  obtain ⟨places, hx⟩ := reads os enc
  refine returnsInHanded_of_row (C := Tryd.checked) (s := Rows.OpenSpec.upto Rows.fnScriptSpec) ownKnobs started (by kernel_rfl) Tryd.func8
    (witness_laid #[.slice none 0 0, .slice none 0 0, .slice none 0 0] (World.shaped_of_ZipB (by kernel_rfl) (by kernel_rfl)) (by kernel_rfl)
      (OpenSpec.preRow_of_cond 8 hx (by kernel_rfl) (fun k hk => by cases hk; kernel_rfl) (by kernel_rfl) (laid_met os))) ?_
  intro W base args ds gs before hval hW _ hcond _ hL _ _
  have hL2 : laidMetH Tryd.prog Rows.fnScriptUptoRow.laid W := hL
  rw [plainList] at hL2
  exact contract H enc W base args ds gs before hval hW hL2 (hcond _ rfl)

theorem said : Rows.FnScriptUptoSaid :=
  OpenClaim.holds_of_cond 8 Tryd.f8 rfl rfl rfl rfl rfl rfl rfl ⟨rfl, rfl, rfl, rfl, rfl⟩ rfl rfl rfl rfl rfl (by kernel_rfl) Tryd.func8 (by kernel_rfl)
    (of_decide_eq_true (by kernel_rfl)) (by unfold Func.isWrapper; first | (rw [if_pos (by decide +kernel)]; kernel_rfl) | (rw [if_neg (by decide +kernel)]; exact ⟨rfl, rfl⟩))
    (fun os started H enc _ F => by rw [OpenClaim.pre_eq_preRow]; exact lifted os started H enc F)

theorem plain (f : FuncId) (fn : Func) (hf : Tryd.pinned.checked.prog.funcNamed "loop.example/lib-g01429/laws.FnScript" = some f) (hfn : Tryd.pinned.checked.prog.funcs[f]? = some fn) :
    true = Tryd.pinned.checked.prog.looks [] ∧ ∀ (j : Nat) t, fn.params[j]? = some t → Tryd.pinned.checked.prog.wantsStandIn t = false := by
  obtain rfl : f = 8 := Option.some.inj ((show Tryd.prog.funcNamed "loop.example/lib-g01429/laws.FnScript" = some 8 by kernel_rfl).symm.trans hf) |>.symm
  obtain rfl : fn = Tryd.f8 := (Option.some.inj (Tryd.func8.symm.trans hfn)).symm
  refine ⟨by kernel_rfl, fun j t ht => ?_⟩
  rw [Tryd.params8] at ht
  have hm := Array.mem_of_getElem? ht
  simp only [List.mem_toArray, List.mem_cons, List.not_mem_nil, or_false] at hm
  rcases hm with rfl | rfl | rfl
  · exact (show Tryd.prog.wantsStandIn 23 = false by kernel_rfl)
  · exact (show Tryd.prog.wantsStandIn 27 = false by kernel_rfl)
  · exact (show Tryd.prog.wantsStandIn 22 = false by kernel_rfl)

/-- THE CARD. -/
theorem card : Rows.FnScriptUptoCardSaid :=
  Claim7.holds_tied_plain_at .later [] _ _ _ _ said (fun _ h => by cases h) (by kernel_rfl) (fun _ h => by cases h) fnScriptUpto_row_tie rfl ⟨rfl, rfl⟩ (by kernel_rfl) rfl plain (by kernel_rfl)
end fnScript
end Go.Proofs.YthjkpkkkjndjlaaDoor
