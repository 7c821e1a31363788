/- FnScriptParts returns true for all scripts of bounded bulk: what a script appends is what its beginning appends, and behind that what its rest does. Conditions: none beyond the card's own. -/
import Derived.Test.YthjkpkkkjndjlaaDoorFnScript
import Derived.StillTailTactics
namespace Go.Proofs.YthjkpkkkjndjlaaDoor
open Go.RowKit
namespace fnScriptParts

def subA (a : Option Addr) (c p : Nat) : Option Addr := if c = p then a else a.map (·.add p)
theorem sub_run (t : TypeId) (h : Tryd.prog.underlying t = some (.slice (Tryd.prog.elem t))) (hs : ∀ w, (sizeOf (Tryd.prog.elem t)).run Tryd.prog w = .ok 1 w) (a : Option Addr) (n c p m : Nat) (h1 : p ≤ m) (h2 : m ≤ c) (w : World) :
    (Instr.sliceAt t (.slice a n c) (some (.int .i64 (p : Int))) (some (.int .i64 (m : Int))) none).run Tryd.prog w = .ok (.slice (subA a c p) (m - p) (c - p)) w := by
  rw [run_sliceAt_slice w t _ _ _ _ h, run_slice_lh w t a n c h .i64 .i64 (p : Int) (m : Int) (by omega) (by omega) (by omega), hs]
  simp [Result.andThen, sliced, subA]

theorem ints_take {w : World} {a : Option Addr} {xs : List Int} (h : IntsIn w a xs) (p : Nat) : IntsIn w a (xs.take p) := by
  intro i hi
  have hi' : i < xs.length := by simp at hi; omega
  obtain ⟨b, off, h1, h2⟩ := h i hi'
  exact ⟨b, off, h1, by rw [h2]; simp⟩
theorem ints_sub {w : World} {a : Option Addr} {xs : List Int} (h : IntsIn w a xs) (c p m : Nat) (hc : xs.length ≤ c) (hm : m ≤ xs.length) : IntsIn w (subA a c p) ((xs.drop p).take (m - p)) := by
  intro i hi
  have hi' : p + i < m := by simp at hi; omega
  obtain ⟨b, off, h1, h2⟩ := h (p + i) (by omega)
  refine ⟨b, off + p, ?_, ?_⟩
  · rw [subA, if_neg (by omega), h1, Option.map_some, Go.WideShapes.add_plain]
  · rw [show off + p + i = off + (p + i) by omega, h2]; simp
theorem strs_sub {w : World} {a : Option Addr} {xs : List ByteArray} (h : StrsIn w a xs) (c p m : Nat) (hc : xs.length ≤ c) (hm : m ≤ xs.length) : StrsIn w (subA a c p) ((xs.drop p).take (m - p)) := by
  intro i hi
  have hi' : p + i < m := by simp at hi; omega
  obtain ⟨b, off, h1, h2⟩ := h (p + i) (by omega)
  refine ⟨b, off + p, ?_, ?_⟩
  · rw [subA, if_neg (by omega), h1, Option.map_some, Go.WideShapes.add_plain]
  · rw [show off + p + i = off + (p + i) by omega, h2]; simp

theorem script_take (K N : List Int) (T : List ByteArray) (p : Nat) : scriptZ (K.take p) N T p = scriptZ K N T p := by
  unfold scriptZ
  congr 1
  apply List.map_congr_left
  intro i hi
  have : i < p := List.mem_range.1 hi
  simp [List.getD, this]
theorem script_split (K N : List Int) (T : List ByteArray) (p m : Nat) (h : p ≤ m) : scriptZ K N T m = scriptZ K N T p ++ scriptZ ((K.drop p).take (m - p)) ((N.drop p).take (m - p)) ((T.drop p).take (m - p)) (m - p) := by
  have e : List.range m = List.range p ++ (List.range (m - p)).map (p + ·) := by
    conv => lhs; rw [show m = p + (m - p) by omega, List.range_add]
  unfold scriptZ
  rw [e, List.map_append, List.flatten_append, List.map_map]
  congr 2
  apply List.map_congr_left
  intro i hi
  have hi' : i < m - p := List.mem_range.1 hi
  simp [List.getD, List.getElem?_drop, hi', Function.comp]

theorem bulk_sub (T : List ByteArray) (p m : Nat) : bulkT ((T.drop p).take m) ≤ bulkT T := by
  have h1 := bulk_le (T.drop p) m
  have e : bulkT T = bulkT (T.take p) + bulkT (T.drop p) := by
    conv => lhs; rw [← List.take_append_drop p T]
    simp only [bulkT, List.map_append, List.sum_append]
  omega

set_option maxHeartbeats 2000000 in
set_option maxRecDepth 100000 in
theorem walkOf (w : World) (a1 a2 a3 : Option Addr) (n1 n2 n3 c1 c2 c3 : Nat) (K N : List Int) (T : List ByteArray) (e1 : K.length = n1) (e2 : N.length = n2) (e3 : T.length = n3) (l1 : n1 ≤ c1) (l2 : n2 ≤ c2) (l3 : n3 ≤ c3)
    (i1 : IntsIn w a1 K) (i2 : IntsIn w a2 N) (i3 : StrsIn w a3 T) (hwf : ∀ x ∈ N, (Lit.int .i64 x).wf = true) (hb1 : n1 ≤ 1048576) (hb3 : bulkT T ≤ 1048576) (at_ : Int) (hE : EnvS w) :
    Calls Tryd.prog 7 #[.slice a1 n1 c1, .slice a2 n2 c2, .slice a3 n3 c3, .int .i64 at_] w fun e w' => e = .returned (.bool true) ∧ Below w.heap.size w w' := by
  obtain ⟨m, hm⟩ : ∃ m, m = min (min n1 n2) n3 := ⟨_, rfl⟩
  obtain ⟨p, hp⟩ : ∃ p : Nat, max 0 (min at_ (m : Int)) = (p : Int) := ⟨(max 0 (min at_ (m : Int))).toNat, by omega⟩
  have hpm : p ≤ m := by omega
  have hA : ∀ w1, Below w.heap.size w w1 → Calls Tryd.prog 22 #[.slice a1 n1 c1, .slice a2 n2 c2, .slice a3 n3 c3] w1 (BufPost w1.heap.size w1 (Lib.intCells (scriptZ K N T m))) := fun w1 h1 => by
    rw [hm]; exact AppendScript_any w1 a1 a2 a3 n1 n2 n3 c1 c2 c3 K N T e1 e2 e3 (i1.on h1) (i2.on h1) (i3.on h1) hwf hb1 hb3 (hE.on h1)
  have hB : ∀ w1, Below w.heap.size w w1 → Calls Tryd.prog 22 #[.slice a1 p c1, .slice a2 n2 c2, .slice a3 n3 c3] w1 (BufPost w1.heap.size w1 (Lib.intCells (scriptZ K N T p))) := fun w1 h1 => by
    have h9 := AppendScript_any w1 a1 a2 a3 p n2 n3 c1 c2 c3 (K.take p) N T (by simp; omega) e2 e3 (ints_take (i1.on h1) p) (i2.on h1) (i3.on h1) hwf (by omega) hb3 (hE.on h1)
    rwa [show min (min p n2) n3 = p by omega, script_take] at h9
  have hC : ∀ w1, Below w.heap.size w w1 → Calls Tryd.prog 22 #[.slice (subA a1 c1 p) (m - p) (c1 - p), .slice (subA a2 c2 p) (m - p) (c2 - p), .slice (subA a3 c3 p) (m - p) (c3 - p)] w1 (BufPost w1.heap.size w1 (Lib.intCells (scriptZ ((K.drop p).take (m - p)) ((N.drop p).take (m - p)) ((T.drop p).take (m - p)) (m - p)))) := fun w1 h1 => by
    have hbs := bulk_sub T p (m - p)
    have h9 := AppendScript_any w1 (subA a1 c1 p) (subA a2 c2 p) (subA a3 c3 p) (m - p) (m - p) (m - p) (c1 - p) (c2 - p) (c3 - p) ((K.drop p).take (m - p)) ((N.drop p).take (m - p)) ((T.drop p).take (m - p)) (by simp; omega) (by simp; omega) (by simp; omega)
      (ints_sub (i1.on h1) c1 p m (by omega) (by omega)) (ints_sub (i2.on h1) c2 p m (by omega) (by omega)) (strs_sub (i3.on h1) c3 p m (by omega) (by omega)) (fun x hx => hwf x (List.mem_of_mem_drop (List.mem_of_mem_take hx))) (by omega) (by omega) (hE.on h1)
    rwa [show min (min (m - p) (m - p)) (m - p) = m - p by omega] at h9
  have hsp := script_split K N T p m hpm
  have hln := scriptZ_len K N T hwf m (by omega) (by omega) (by omega)
  have hbt := bulk_le T m
  have hmi : (if (n3 : Int) < (if n2 < n1 then (n2 : Int) else (n1 : Int)) then (n3 : Int) else if n2 < n1 then (n2 : Int) else (n1 : Int)) = (m : Int) := by split <;> split at * <;> omega
  have hr1 := sub_run 23 (by kernel_rfl) (fun w => by kernel_rfl) a1 n1 c1 p m hpm (by omega)
  have hr2 := sub_run 27 (by kernel_rfl) (fun w => by kernel_rfl) a2 n2 c2 p m hpm (by omega)
  have hr3 := sub_run 22 (by kernel_rfl) (fun w => by kernel_rfl) a3 n3 c3 p m hpm (by omega)
  have g1 : m ≤ n1 := by omega
  generalize scriptZ ((K.drop p).take (m - p)) ((N.drop p).take (m - p)) ((T.drop p).take (m - p)) (m - p) = Z3 at *
  generalize scriptZ K N T p = Z2 at *
  generalize scriptZ K N T m = Z1 at *
  generalize hs1 : subA a1 c1 p = s1 at *
  generalize hs2 : subA a2 c2 p = s2 at *
  generalize hs3 : subA a3 c3 p = s3 at *
  have hcat : bs (nb Z1) = bs (nb Z2) ++ bs (nb Z3) := by rw [hsp, nb_append, bs_append]
  have hz1 : (bs (nb Z1)).size = Z1.length := by rw [bs_size]; simp [nb]
  have hz2 : (bs (nb Z2)).size = Z2.length := by rw [bs_size]; simp [nb]
  have hz3 : (bs (nb Z3)).size = Z3.length := by rw [bs_size]; simp [nb]
  have hz : Z1.length = Z2.length + Z3.length := by rw [hsp, List.length_append]
  have HA := Lib.hid hA
  have HB := Lib.hid hB
  have HC := Lib.hid hC
  clear hA hB hC hsp hm i1 i2 i3 hwf e1 e2 e3 hE hs1 hs2 hs3
  have hz1b : Z1.length ≤ 78643200 := by omega
  have hge : m ≤ Z1.length := hln.1
  clear hln hbt hb3
  go_enter Tryd.func7, Tryd.ntmps7
  go_wp2_with (go_at_call 22; refine (HA.out _ (Below.refl _ _)).mono ?_; rintro e w1 ⟨v1, rfl, hb1'⟩; refine Hid.out ?_)
  refine Lib.hid ?_
  have cv1 := buf_any hb1'
  have B1 := hb1'.2.1
  generalize bs (nb Z1) = S1 at *
  clear hb1' hmi hp
  go_wp2_with (go_at_call 22; refine (HB.out _ B1).mono ?_; rintro e w2 ⟨v2, rfl, hb2'⟩; refine Hid.out ?_)
  refine Lib.hid ?_
  have cv2 := buf_any hb2'
  have B2 := B1.trans (hb2'.2.1.mono B1.size)
  generalize bs (nb Z2) = S2 at *
  clear hb2' cv1
  go_wp2
  go_still_tail 12, (by kernel_rfl)
  change wpList _ _ _ _ _ w2.drew
  have B2' : Below w.heap.size w w2.drew := B2.drew
  generalize w2.drew = w2' at *
  clear B2 cv2 hr1 hr2 hr3
  go_wp2_with (go_at_call 22; refine (HC.out _ B2').mono ?_; rintro e w3 ⟨v3, rfl, hb3'⟩; refine Hid.out ?_)
  refine Lib.hid ?_
  have cv3 := buf_any hb3'
  have B3 := B2'.trans (hb3'.2.1.mono B2'.size)
  generalize bs (nb Z3) = S3 at *
  clear hb3'
  have hsz : (S2 ++ S3).size = Z1.length := by rw [ByteArray.size_append]; omega
  have hge2 : decide ((m : Int) ≤ (Z2.length : Int) + (Z3.length : Int)) = true := by simp; omega
  go_wp2
  go_ret
  exact ⟨rfl, B3⟩

theorem walk (a1 : Option Addr) (n1 c1 : Nat) (K : List Int) (e1 : K.length = n1) (l1 : n1 ≤ c1) (_m1 : c1 ≤ maxLen) (w : World) (i1 : IntsIn w a1 K) (_wf1 : ∀ x ∈ K, (Lit.int .i64 x).wf = true) (b1 : K.length ≤ 1048576)
    (a2 : Option Addr) (n2 c2 : Nat) (N : List Int) (e2 : N.length = n2) (l2 : n2 ≤ c2) (_m2 : c2 ≤ maxLen) (w' : World) (hw : w' = w) (i2 : IntsIn w' a2 N) (wf2 : ∀ x ∈ N, (Lit.int .i64 x).wf = true) (_b2 : N.length ≤ 1048576)
    (a3 : Option Addr) (n3 c3 : Nat) (T : List ByteArray) (e3 : T.length = n3) (l3 : n3 ≤ c3) (_m3 : c3 ≤ maxLen) (w'' : World) (hw' : w'' = w) (i3 : StrsIn w'' a3 T) (_wf3 : ∀ x ∈ T, x.size ≤ maxLen) (b3 : (T.map (fun s => s.size + 1)).sum ≤ 1048576)
    (at_ : Int) (_ha : (Lit.int .i64 at_).wf = true) (hE : EnvS w) :
    Calls Tryd.prog 7 #[.slice a1 n1 c1, .slice a2 n2 c2, .slice a3 n3 c3, .int .i64 at_] w fun e w' => e = .returned (.bool true) ∧ Below w.heap.size w w' := by
  subst hw hw'
  exact walkOf _ a1 a2 a3 n1 n2 n3 c1 c2 c3 K N T e1 e2 e3 l1 l2 l3 i1 i2 i3 wf2 (by omega) b3 at_ hE
end fnScriptParts
namespace fnScriptParts
open Go.ChangeShapes Go.WideShapes Go.ChangeAt Go.RowKit
set_option maxRecDepth 100000 in
theorem contract (H : Type) (enc : TypeId × Value → H) (W : World) (base : Nat) (args : Array Value) (ds gs : List (DataW H)) (before : List MemPlace)
    (hval : ∀ (j : Nat) t v, Tryd.f7.params[j]? = some t → args[j]? = some v → Value.okWide Tryd.prog W .any base t v)
    (hW : DataW.Whole enc Tryd.prog Tryd.f7.params.toList Rows.fnScriptPartsSpec.vars false W args.toList ds gs before) (hL : laidMet Tryd.prog Rows.fnScriptPartsUptoRow.laid W) (hk : Rows.uptoSmall H (ds ++ gs) = true) :
    Calls Tryd.prog 7 args W fun e W' => ∃ v, e = .returned v ∧ Rows.fnScriptPartsSpec.post enc Tryd.prog Tryd.f7 false true false false W args v W' := by
  have hW' := hW
  obtain ⟨p, q, hA0, hV, rfl, hfz, hnd⟩ := hW
  have hA : DataW.TrodAll enc Tryd.prog W 0 (fun _ => true) true Tryd.f7.params.toList args.toList ds p := hA0
  rw [Tryd.params7] at hA hval
  obtain ⟨v0, vs0, d0, ds0, p0, q0, hargs, rfl, rfl, h0, r0⟩ := trodAll_cons hA
  obtain ⟨v1, vs1, d1, ds1, p1, q1, rfl, rfl, rfl, h1, r1⟩ := trodAll_cons r0
  obtain ⟨v2, vs2, d2, ds2, p2, q2, rfl, rfl, rfl, h2, r2⟩ := trodAll_cons r1
  obtain ⟨v3, vs3, d3, ds3, p3, q3, rfl, rfl, rfl, h3, r3⟩ := trodAll_cons r2
  obtain ⟨rfl, rfl, rfl⟩ := trodAll_nil r3
  obtain rfl : args = #[v0, v1, v2, v3] := by cases args; simp_all
  obtain ⟨rfl, rfl⟩ := trodVars_none hV
  obtain ⟨a0, len0, cap0, rfl⟩ := okWide_slice Tryd.underlying23 (hval 0 23 v0 rfl rfl)
  obtain ⟨xs0, ex0, lc0, cm0, in0, wf0, bk0⟩ := opened_ints Tryd.underlying23 Tryd.underlying3 (by kernel_rfl) h0
  have bd0 : xs0.length ≤ 1048576 := by have hs := small hk; simp only [Rows.uptoBulkAll, List.append_nil] at hs; omega
  obtain ⟨a1, len1, cap1, rfl⟩ := okWide_slice Tryd.underlying27 (hval 1 27 v1 rfl rfl)
  obtain ⟨xs1, ex1, lc1, cm1, in1, wf1, bk1⟩ := opened_ints Tryd.underlying27 Tryd.underlying2 (by kernel_rfl) h1
  have bd1 : xs1.length ≤ 1048576 := by have hs := small hk; simp only [Rows.uptoBulkAll, List.append_nil] at hs; omega
  obtain ⟨a2, len2, cap2, rfl⟩ := okWide_slice Tryd.underlying22 (hval 2 22 v2 rfl rfl)
  obtain ⟨xs2, ex2, lc2, cm2, in2, wf2, bk2⟩ := opened_strs Tryd.underlying22 Tryd.underlying9 (by kernel_rfl) h2
  have bd2 : (xs2.map (fun s => s.size + 1)).sum ≤ 1048576 := by have hs := small hk; simp only [Rows.uptoBulkAll, List.append_nil] at hs; omega
  obtain ⟨x3, rfl, rfl, rfl, w3⟩ := open_int Tryd.underlying3 (hval 3 3 v3 rfl rfl) h3
  clear hA0
  simp only [List.append_nil] at hW'
  have hlt := fun x hx => hW'.lt x hx
  refine (walk a0 len0 cap0 xs0 ex0 lc0 cm0 W in0 wf0 bd0 a1 len1 cap1 xs1 ex1 lc1 cm1 W rfl in1 wf1 bd1 a2 len2 cap2 xs2 ex2 lc2 cm2 W rfl in2 wf2 bd2 x3 w3 (env_script hL)).mono fun e W' ⟨he, hg⟩ => ?_
  subst he
  have hback := trodAll_cons_mk (Below.trod laidOut (by kernel_rfl) (of_decide_eq_true (by kernel_rfl)) h0 hg (fun x hx => hlt x (by simp [hx]))) (trodAll_cons_mk (Below.trod laidOut (by kernel_rfl) (of_decide_eq_true (by kernel_rfl)) h1 hg (fun x hx => hlt x (by simp [hx]))) (trodAll_cons_mk (Below.trod laidOut (by kernel_rfl) (of_decide_eq_true (by kernel_rfl)) h2 hg (fun x hx => hlt x (by simp [hx]))) (trodAll_cons_mk (shut_int Tryd.underlying3 w3) (trodAll_mk0))))
  exact ⟨_, rfl, _, _, _, [], _, [], hW', trodAll_cons_mk (shut_bool Tryd.underlying4 _) trodAll_mk0, hback, rfl, hg.frame _, fun h => by cases h⟩

theorem plainList : laidMetH Tryd.prog Rows.fnScriptPartsUptoRow.laid = laidMet Tryd.prog Rows.fnScriptPartsUptoRow.laid := funext fun _ => MakeChecks.laidMetH_plain _ _ _ (by kernel_rfl)
theorem laid_met (os : Os) : laidMetH Tryd.prog Rows.fnScriptPartsUptoRow.laid ((World.laidAll Tryd.prog os Rows.fnScriptPartsUptoRow.laid).forCall (fun _ _ => 0) ⟨#[], #[.slice none 0 0, .slice none 0 0, .slice none 0 0, .int .i64 0], []⟩).memory := by
  rw [plainList]; exact laidMet_laidAll _ (by kernel_rfl) (by kernel_rfl)
theorem reads (os : Os) {H : Type} (enc : TypeId × Value → H) : ∃ places, DataW.whole enc Tryd.prog ((World.laidAll Tryd.prog os Rows.fnScriptPartsUptoRow.laid).forCall (fun _ _ => 0) ⟨#[], #[.slice none 0 0, .slice none 0 0, .slice none 0 0, .int .i64 0], []⟩).memory Tryd.f7.params.toList Rows.fnScriptPartsSpec.vars false #[(.slice none 0 0 : Value), (.slice none 0 0 : Value), (.slice none 0 0 : Value), (.int .i64 0 : Value)].toList 8 = some ([.nil, .nil, .nil, .lit (.int .i64 0)], [], places) :=
  ⟨[], by kernel_rfl⟩

set_option maxRecDepth 100000 in
theorem lifted (os : Os) (started : os.Started) (H : Type) (enc : TypeId × Value → H) (F : Stop.Interp) :
    ReturnsInHanded {} Tryd.checked os 7 .any ((Rows.OpenSpec.upto Rows.fnScriptPartsSpec).preRow enc Tryd.prog Tryd.f7 Rows.fnScriptPartsUptoRow.domain false Rows.fnScriptPartsUptoRow.laid) (((Rows.OpenSpec.upto Rows.fnScriptPartsSpec).at F).post enc Tryd.prog Tryd.f7 false true false false) := by
  obtain ⟨places, hx⟩ := reads os enc
  refine returnsInHanded_of_row (C := Tryd.checked) (s := Rows.OpenSpec.upto Rows.fnScriptPartsSpec) ownKnobs started (by kernel_rfl) Tryd.func7
    (witness_laid #[.slice none 0 0, .slice none 0 0, .slice none 0 0, .int .i64 0] (World.shaped_of_ZipB (by kernel_rfl) (by kernel_rfl)) (by kernel_rfl)
      (OpenSpec.preRow_of_cond 8 hx (by kernel_rfl) (fun k hk => by cases hk; kernel_rfl) (by kernel_rfl) (laid_met os))) ?_
  intro W base args ds gs before hval hW _ hcond _ hL _ _
  have hL2 : laidMetH Tryd.prog Rows.fnScriptPartsUptoRow.laid W := hL
  rw [plainList] at hL2
  exact contract H enc W base args ds gs before hval hW hL2 (hcond _ rfl)

theorem said : Rows.FnScriptPartsUptoSaid :=
  OpenClaim.holds_of_cond 7 Tryd.f7 rfl rfl rfl rfl rfl rfl rfl ⟨rfl, rfl, rfl, rfl, rfl⟩ rfl rfl rfl rfl rfl (by kernel_rfl) Tryd.func7 (by kernel_rfl)
    (of_decide_eq_true (by kernel_rfl)) (by unfold Func.isWrapper; first | (rw [if_pos (by decide +kernel)]; kernel_rfl) | (rw [if_neg (by decide +kernel)]; exact ⟨rfl, rfl⟩))
    (fun os started H enc _ F => by rw [OpenClaim.pre_eq_preRow]; exact lifted os started H enc F)

theorem plain (f : FuncId) (fn : Func) (hf : Tryd.pinned.checked.prog.funcNamed "loop.example/lib-g01429/laws.FnScriptParts" = some f) (hfn : Tryd.pinned.checked.prog.funcs[f]? = some fn) :
    true = Tryd.pinned.checked.prog.looks [] ∧ ∀ (j : Nat) t, fn.params[j]? = some t → Tryd.pinned.checked.prog.wantsStandIn t = false := by
  obtain rfl : f = 7 := Option.some.inj ((show Tryd.prog.funcNamed "loop.example/lib-g01429/laws.FnScriptParts" = some 7 by kernel_rfl).symm.trans hf) |>.symm
  obtain rfl : fn = Tryd.f7 := (Option.some.inj (Tryd.func7.symm.trans hfn)).symm
  refine ⟨by kernel_rfl, fun j t ht => ?_⟩
  rw [Tryd.params7] at ht
  have hm := Array.mem_of_getElem? ht
  simp only [List.mem_toArray, List.mem_cons, List.not_mem_nil, or_false] at hm
  rcases hm with rfl | rfl | rfl | rfl
  · exact (show Tryd.prog.wantsStandIn 23 = false by kernel_rfl)
  · exact (show Tryd.prog.wantsStandIn 27 = false by kernel_rfl)
  · exact (show Tryd.prog.wantsStandIn 22 = false by kernel_rfl)
  · exact (show Tryd.prog.wantsStandIn 3 = false by kernel_rfl)

/-- THE CARD. -/
theorem card : Rows.FnScriptPartsUptoCardSaid :=
  Claim7.holds_tied_plain_at .later [] _ _ _ _ said (fun _ h => by cases h) (by kernel_rfl) (fun _ h => by cases h) fnScriptPartsUpto_row_tie rfl ⟨rfl, rfl⟩ (by kernel_rfl) rfl plain (by kernel_rfl)
end fnScriptParts
end Go.Proofs.YthjkpkkkjndjlaaDoor
