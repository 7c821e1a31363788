/- FnListBack returns true for all lists and all bases: numbers with commas between them are read back. Conditions: none beyond the card's own. -/
import Derived.Test.YtenepfefpoiddaaDoorPIntS
import Derived.Test.YtenepfefpoiddaaDoorSlices
import Derived.SizedLaws
namespace Go.Proofs.YtenepfefpoiddaaDoor
open Go.RowKit
namespace fnListBack

/-- The texts of numbers with a comma between any two. -/
def joinC (b : Nat) : List Int → List UInt8
  | [] => []
  | x :: r => itext b x ++ (r.map fun y => 44 :: itext b y).flatten
theorem joinC_snoc (b : Nat) (l : List Int) (x : Int) : joinC b (l ++ [x]) = if l = [] then itext b x else joinC b l ++ 44 :: itext b x := by
  cases l with
  | nil => simp [joinC]
  | cons y r => simp [joinC]
theorem joinC_cons (b : Nat) (x : Int) (r : List Int) : joinC b (x :: r) = itext b x ++ if r = [] then [] else 44 :: joinC b r := by
  cases r with
  | nil => simp [joinC]
  | cons y r => simp [joinC]
theorem itext_len {b : Nat} (hb : 2 ≤ b) {x : Int} (h0 : -9223372036854775808 ≤ x) (h1 : x ≤ 9223372036854775807) : 1 ≤ (itext b x).length ∧ (itext b x).length ≤ 65 := by
  have hl := digs_len hb 63 x.natAbs (by omega)
  have hp := digs_pos b x.natAbs
  unfold itext
  split
  · rw [List.length_cons, text_len]; omega
  · rw [text_len]; omega
theorem itext_comma {b : Nat} (hb : 2 ≤ b) (hb2 : b ≤ 36) (x : Int) : ∀ c ∈ itext b x, c.toNat ≠ 44 := by
  have ht : ∀ c ∈ text b x.natAbs, c.toNat ≠ 44 := by
    intro c hc
    obtain ⟨d, hd, rfl⟩ := List.mem_map.1 hc
    have := dch_ge d (Nat.lt_of_lt_of_le (digs_bd hb _ d hd) hb2)
    omega
  intro c hc
  unfold itext at hc
  split at hc
  · rcases List.mem_cons.1 hc with rfl | h
    · decide
    · exact ht c h
  · exact ht c hc
theorem joinC_len {b : Nat} (hb : 2 ≤ b) : ∀ (xs : List Int), (∀ x ∈ xs, (Lit.int .i64 x).wf = true) → (joinC b xs).length ≤ 66 * xs.length
  | [], _ => by simp [joinC]
  | x :: r, h => by
    have h1 := wf_i64 (h x (by simp))
    have h2 := itext_len hb h1.1 h1.2
    have h3 := joinC_len hb r (fun y hy => h y (by simp [hy]))
    rw [joinC_cons, List.length_append, List.length_cons]
    split
    · simp; omega
    · rw [List.length_cons]; omega

theorem ext_take (l : List UInt8) (m : Nat) : (bs l).extract 0 m = bs (l.take m) := by
  apply ByteArray.ext
  simp [bs, ByteArray.data_extract]
theorem ext_drop (l : List UInt8) (m n : Nat) (hn : n = l.length) : (bs l).extract m n = bs (l.drop m) := by
  apply ByteArray.ext
  subst hn
  rw [ByteArray.data_extract]
  simp only [bs, List.extract_toArray, List.extract]
  rw [List.take_of_length_le (by simp)]

/-- What the text of the rest of the list is made of. -/
theorem drop_facts (b : Nat) (xs : List Int) (j : Nat) (h : j < xs.length) : joinC b (xs.drop j) = itext b (xs[j]'h) ++ if j + 1 = xs.length then [] else 44 :: joinC b (xs.drop (j + 1)) := by
  rw [List.drop_eq_getElem_cons h, joinC_cons]
  by_cases e : j + 1 = xs.length
  · rw [if_pos e, if_pos (List.drop_eq_nil_of_le (by omega))]
  · rw [if_neg e, if_neg (fun hn => by have := List.drop_eq_nil_iff.1 hn; omega)]

theorem take_facts (b : Nat) (xs : List Int) (j : Nat) (h : j < xs.length) : joinC b (xs.take (j + 1)) = if j = 0 then itext b (xs[j]'h) else joinC b (xs.take j) ++ 44 :: itext b (xs[j]'h) := by
  rw [← List.take_append_getElem h, joinC_snoc]
  by_cases e : j = 0
  · rw [if_pos e, if_pos (by rw [e]; rfl)]
  · rw [if_neg e, if_neg (fun hn => by rcases List.take_eq_nil_iff.1 hn with h1 | h1; exact e h1; rw [h1] at h; simp at h)]

theorem head_get {T : ByteArray} {I R : List UInt8} (hT : T = bs (I ++ R)) (hcm : ∀ c ∈ I, c.toNat ≠ 44) (k : Nat) (h : k < T.size) (hk : k < I.length) : (T[k]'h).toNat ≠ 44 := by
  subst hT
  rw [bs_get, List.getElem_append_left hk]
  exact hcm _ (List.getElem_mem hk)
theorem comma_get {T : ByteArray} {I R : List UInt8} (hT : T = bs (I ++ 44 :: R)) (k : Nat) (hk : k = I.length) (h : k < T.size) : (T[k]'h).toNat = 44 := by
  subst hT hk
  rw [bs_get, List.getElem_append_right (Nat.le_refl _)]
  simp

set_option maxHeartbeats 1000000 in
set_option maxRecDepth 100000 in
theorem walkOf (w : World) (a0 : Option Addr) (cap : Nat) (xs : List Int) (lc : xs.length ≤ cap) (hin : IntsIn w a0 xs) (hwf : ∀ x ∈ xs, (Lit.int .i64 x).wf = true) (bd : xs.length ≤ 17592186044416)
    (b : Nat) (hb : 2 ≤ b) (hb2 : b ≤ 36) (hE : EnvP w) :
    Calls Tryd.prog 8 #[.slice a0 xs.length cap, .int .i64 b] w fun e w' => e = .returned (.bool true) ∧ Below w.heap.size w w' := by
  obtain ⟨n, hn⟩ : ∃ n, xs.length = n := ⟨_, rfl⟩
  rw [hn]
  rw [hn] at bd lc
  have HN := Lib.hid hn
  have HIN := Lib.hid hin
  have HWF := Lib.hid hwf
  clear hn hin hwf
  go_enter Tryd.func8, Tryd.ntmps8
  go_wp2_with (go_at_call 21; refine (based_yes b _ hb hb2).mono ?_; rintro e w' ⟨rfl, rfl⟩)
  go_loopw [5, 6, 7, 18] (fun vt _ _ vj wr => ∃ (j : Nat) (T : ByteArray), j ≤ n ∧ vj = .int .i64 j ∧ vt = .string T ∧ Hid (T = bs (joinC b (xs.take j))) ∧ Below w.heap.size w wr) (fun _ _ _ vj _ => n - (intOf vj).toNat)
  case atStart => exact ⟨0, ⟨#[]⟩, by omega, rfl, rfl, rfl, Below.refl _ _⟩
  case round =>
    obtain ⟨j, T, hj, rfl, rfl, HT, hbel⟩ := hrel
    have hTs : T.size ≤ 1161084278931456 := by
      have h1 := joinC_len hb (xs.take j) (fun x hx => HWF.out x (List.mem_of_mem_take hx))
      have h2 : (xs.take j).length ≤ j := by simp; omega
      rw [HT.out, bs_size]; omega
    by_cases hlt : j < n
    · have hjx : j < xs.length := by rw [HN.out]; exact hlt
      obtain ⟨blk, off, rfl, hcell⟩ := (HIN.out.on hbel) j hjx
      have hx := wf_i64 (HWF.out _ (List.getElem_mem hjx))
      have hnext := take_facts b xs j hjx
      have hF := fun w1 hw1 => FormatInt_any b w.heap.size xs[j] w1 hb hb2 hx.1 hx.2 hw1
      obtain ⟨hl1, hl2⟩ := itext_len hb hx.1 hx.2
      have hS : (istr b xs[j]).size ≤ 65 := by rw [istr, bs_size]; exact hl2
      have hSe : istr b xs[j] = bs (itext b xs[j]) := rfl
      generalize istr b xs[j] = S at *
      generalize itext b xs[j] = I at *
      generalize xs[j] = x at *
      have HF := Lib.hid hF
      have HX := Lib.hid hnext
      have HS := Lib.hid hSe
      clear hF hnext hSe hjx hl1 hl2
      have hEn := hE.nums.on hbel
      by_cases h0 : 0 < j
      · have g0 : decide (0 < j) = true := by simpa using h0
        go_wp2_with (go_at_call 24; refine (HF.out _ hEn).mono ?_; rintro e w1 ⟨rfl, hw1⟩)
        refine ⟨⟨j + 1, _, by omega, by go_num, rfl, ?_, hbel.trans (hw1.mono hbel.size)⟩, ?_⟩
        · show _ = _
          rw [HX.out, if_neg (by omega), HT.out, HS.out, bs_one, bs_append, bs_append]
          simp
        · simp [intOf]; omega
      · have g0 : decide (0 < j) = false := by simpa using h0
        go_wp2_with (go_at_call 24; refine (HF.out _ hEn).mono ?_; rintro e w1 ⟨rfl, hw1⟩)
        refine ⟨⟨j + 1, _, by omega, by go_num, rfl, ?_, hbel.trans (hw1.mono hbel.size)⟩, ?_⟩
        · show _ = _
          rw [HX.out, if_pos (by omega), HT.out, HS.out, bs_append, show j = 0 by omega]
          rfl
        · simp [intOf]; omega
    · obtain rfl : j = n := by omega
      have hT2 : T = bs (joinC b (xs.drop 0)) := by rw [HT.out, List.take_of_length_le (by rw [HN.out]; omega)]; rfl
      have HT2 := Lib.hid hT2
      clear hT2 HT hTs hlt hj
      go_wp2
      go_loopw [5, 8, 9, 10, 11, 12, 35] (fun vt _ _ _ _ _ vj wr => ∃ (i : Nat) (T : ByteArray), i ≤ j ∧ vj = .int .i64 i ∧ vt = .string T ∧ Hid (T = bs (joinC b (xs.drop i))) ∧ Below w.heap.size w wr) (fun _ _ _ _ _ _ vj _ => j - (intOf vj).toNat)
      case atStart => exact ⟨0, T, by omega, rfl, rfl, HT2, hbel⟩
      case round =>
        clear HT2
        obtain ⟨i, T, hi, rfl, rfl, HT, hbel⟩ := hrel
        by_cases hlt : i < j
        · have hix : i < xs.length := by rw [HN.out]; exact hlt
          obtain ⟨blk, off, rfl, hcell⟩ := (HIN.out.on hbel) i hix
          have hx := wf_i64 (HWF.out _ (List.getElem_mem hix))
          have hdr := drop_facts b xs i hix
          rw [HN.out] at hdr
          have hP := fun w1 => ParseInt_istr b xs[i] hb hb2 hx.1 hx.2 w1
          obtain ⟨hl1, hl2⟩ := itext_len hb hx.1 hx.2
          have hcm := itext_comma hb hb2 xs[i]
          rw [show istr b xs[i] = bs (itext b xs[i]) from rfl] at hP
          generalize itext b xs[i] = I at *
          generalize xs[i] = x at *
          obtain ⟨m, hm⟩ : ∃ m, I.length = m := ⟨_, rfl⟩
          have e1 : T.extract 0 m = bs I := by rw [HT.out, hdr, ext_take, ← hm, List.take_left]
          generalize hS : bs I = S at hP e1
          have HP := Lib.hid hP
          clear hP hS hix
          by_cases hlast : i + 1 = j
          · rw [if_pos hlast, List.append_nil] at hdr
            have hTe : T = bs (I ++ []) := by rw [HT.out, hdr, List.append_nil]
            have hTs : T.size = m := by rw [hTe, List.append_nil, bs_size, hm]
            have hget := fun k h hk => head_get hTe hcm k h hk
            have hrest : T.extract m m = ⟨#[]⟩ := by rw [hTe, List.append_nil, ext_drop I m m hm.symm, List.drop_eq_nil_of_le (by omega)]; rfl
            have hend : (⟨#[]⟩ : ByteArray) = bs (joinC b (xs.drop (i + 1))) := by rw [hlast, List.drop_eq_nil_of_le (by rw [HN.out]; omega)]; rfl
            rw [hm] at hl1 hl2 hget
            have HG := Lib.hid hget
            have HEND := Lib.hid hend
            clear hget hend hdr hTe hcm hm HT
            go_wp2
            go_loop [10] (fun vn => ∃ k : Nat, k ≤ m ∧ vn = .int .i64 k) (fun vn => m - (intOf vn).toNat)
            case atStart => exact ⟨0, by omega, rfl⟩
            case round =>
              obtain ⟨k, hk, rfl⟩ := hrel
              by_cases hkm : k < m
              · have hks : k < T.size := by omega
                have hne := HG.out k hks hkm
                obtain ⟨c, hc⟩ : ∃ c : Nat, (T[k]'hks).toNat = c := ⟨_, rfl⟩
                rw [hc] at hne
                have g1 : ((c : Int) == 44) = false := by simp; omega
                go_wp2
                go_round
                case rel => exact ⟨k + 1, by omega, by go_num⟩
                case measure => simp [intOf]; omega
              · obtain rfl : k = m := by omega
                have g2 : ((i : Int) == (j : Int) - 1) = true := by simp; omega
                have g3 : min ((k : Int) + 1) (k : Int) = (k : Int) := by omega
                go_wp2_with (go_at_call 25; refine (HP.out _).mono ?_; rintro e w1 ⟨rfl, hw1⟩)
                refine ⟨⟨i + 1, _, by omega, by go_num, rfl, ?_, hbel.trans (hw1.mono hbel.size)⟩, ?_⟩
                · show _ = _
                  first | exact HEND.out | (rw [← HEND.out, ← hrest]; all_goals first | rfl | (congr 1; omega) | congr 1)
                · simp [intOf]; omega
          · rw [if_neg hlast] at hdr
            generalize hR : joinC b (xs.drop (i + 1)) = R at hdr
            have hTe : T = bs (I ++ 44 :: R) := by rw [HT.out, hdr]
            have hTs0 : T.size = m + 1 + R.length := by rw [hTe, bs_size, List.length_append, hm, List.length_cons]; omega
            obtain ⟨N, hTs⟩ : ∃ N, T.size = N := ⟨_, rfl⟩
            rw [hTs] at hTs0
            have hN1 : m + 1 ≤ N := by omega
            have hNb : N ≤ 1161084278931456 := by
              have h1 := joinC_len hb (xs.drop i) (fun x hx => HWF.out x (List.mem_of_mem_drop hx))
              have h2 : (xs.drop i).length ≤ j := by rw [List.length_drop, HN.out]; omega
              rw [← hTs, HT.out, bs_size]; omega
            have hget := fun k h hk => head_get hTe hcm k h hk
            have hcom := fun h => comma_get hTe m hm.symm h
            have hrest : T.extract (m + 1) N = bs R := by rw [hTe, ext_drop _ (m + 1) N (by rw [List.length_append, hm, List.length_cons]; omega), ← hm, List.drop_append, List.drop_eq_nil_of_le (by omega), List.nil_append]; simp
            rw [hm] at hl1 hl2 hget
            have HG := Lib.hid hget
            have HC := Lib.hid hcom
            have HR := Lib.hid hR
            clear hget hcom hdr hTe hcm hm HT hR hTs0
            go_wp2
            go_loop [10] (fun vn => ∃ k : Nat, k ≤ m ∧ vn = .int .i64 k) (fun vn => m - (intOf vn).toNat)
            case atStart => exact ⟨0, by omega, rfl⟩
            case round =>
              obtain ⟨k, hk, rfl⟩ := hrel
              by_cases hkm : k < m
              · have hks : k < T.size := by omega
                have hne := HG.out k hks hkm
                obtain ⟨c, hc⟩ : ∃ c : Nat, (T[k]'hks).toNat = c := ⟨_, rfl⟩
                rw [hc] at hne
                have g1 : ((c : Int) == 44) = false := by simp; omega
                go_wp2
                go_round
                case rel => exact ⟨k + 1, by omega, by go_num⟩
                case measure => simp [intOf]; omega
              · obtain rfl : k = m := by omega
                have hks : k < T.size := by omega
                have hc := HC.out hks
                have g2 : ((i : Int) == (j : Int) - 1) = false := by simp; omega
                have g3 : min ((k : Int) + 1) (N : Int) = (k : Int) + 1 := by omega
                go_wp2_with (go_at_call 25; refine (HP.out _).mono ?_; rintro e w1 ⟨rfl, hw1⟩)
                refine ⟨⟨i + 1, _, by omega, by go_num, rfl, ?_, hbel.trans (hw1.mono hbel.size)⟩, ?_⟩
                · show _ = _
                  rw [HR.out, ← hrest]
                  all_goals first | rfl | (congr 1; omega) | congr 1
                · simp [intOf]; omega
        · obtain rfl : i = j := by omega
          have hTs : T.size = 0 := by rw [HT.out, List.drop_eq_nil_of_le (by rw [HN.out]; omega)]; rfl
          go_wp2
          go_ret
          exact ⟨rfl, hbel⟩

/-- The reach of a list of numbers. -/
theorem sized {H : Type} {P : Program} {ts : List TypeId} {ds : List (DataW H)} {e t : TypeId} {d : DataW H} {xs ys : List Int} (hu : P.underlying t = some (.slice e)) (hd : d = .slice (Go.ChangeShapes.lits .i64 xs) (Go.ChangeShapes.lits .i64 ys)) (hb : P.bytesOf e = 8)
    (h : (DataW.weightsEach P (t :: ts) (d :: ds)).all (· ≤ reachBytes) = true) : xs.length * 8 ≤ reachBytes := by
  subst hd
  have h1 := List.all_eq_true.1 h
  simp only [DataW.weightsEach, DataW.weights, hu, List.mem_append, List.mem_cons, decide_eq_true_eq] at h1
  have h2 := h1 _ (.inl (.inl rfl))
  rw [hb] at h2
  simp [Go.ChangeShapes.lits] at h2
  omega

open Go.ChangeShapes Go.WideShapes in
theorem opened_intz {H : Type} {enc : TypeId × Value → H} {W : World} {t e : TypeId} {ts : List TypeId} {ds : List (DataW H)} {a0 : Option Addr} {len cap : Nat} {d0 : DataW H} {p : List MemPlace} (ht : Tryd.prog.underlying t = some (.slice e)) (he : Tryd.prog.underlying e = some (.int .i64)) (hc : Tryd.prog.cellsOf e = 1) (hb : Tryd.prog.bytesOf e = 8)
    (h0 : DataW.Trod enc Tryd.prog W 0 (fun _ => true) true t (.slice a0 len cap) d0 p) (hsz : (DataW.weightsEach Tryd.prog (t :: ts) (d0 :: ds)).all (· ≤ reachBytes) = true) :
    ∃ xs : List Int, xs.length = len ∧ len ≤ cap ∧ IntsIn W a0 xs ∧ (∀ x ∈ xs, (Lit.int .i64 x).wf = true) ∧ xs.length * 8 ≤ reachBytes := by
  obtain ⟨fuel, hf⟩ := h0
  rcases open_ints ht he hc hf with ⟨hcs, hx⟩ | ⟨a, len', cap', zs, hcs, _, hl, hm, hz, hx, hcell, hwz⟩
  · simp [Value.cells] at hcs
    obtain ⟨rfl, rfl, rfl⟩ := hcs
    exact ⟨[], rfl, Nat.le_refl _, fun i hi => by simp at hi, fun x hx => by simp at hx, by simp⟩
  · simp [Value.cells] at hcs
    obtain ⟨rfl, rfl, rfl⟩ := hcs
    simp only [if_true] at hz
    have hs := sized ht (show d0 = _ from congrArg Prod.fst hx) hb hsz
    refine ⟨zs.take len, by simp; omega, hl, ?_, fun x hx => hwz x (List.mem_of_mem_take hx), hs⟩
    intro i hi
    have hi2 : i < zs.length := by simp at hi; omega
    obtain ⟨b, off, rfl, hc2⟩ := ints_at hcell (by omega)
    refine ⟨b, off, rfl, ?_⟩
    rw [hc2 i hi2]
    simp [List.getD, hi2]

set_option maxRecDepth 100000 in
theorem walk (a0 : Option Addr) (len cap : Nat) (xs : List Int) (ex : xs.length = len) (lc : len ≤ cap) (w : World) (hin : IntsIn w a0 xs) (hwf : ∀ x ∈ xs, (Lit.int .i64 x).wf = true) (h8 : xs.length * 8 ≤ reachBytes)
    (b : Int) (_hb : (Lit.int .i64 b).wf = true) (hE : EnvP w) :
    Calls Tryd.prog 8 #[.slice a0 len cap, .int .i64 b] w fun e w' => e = .returned (.bool true) ∧ Below w.heap.size w w' := by
  have hr := reachBytes_lt
  have e47 : (2 : Nat) ^ 47 = 140737488355328 := by decide
  rw [e47] at hr
  have bd : xs.length ≤ 17592186044416 := by omega
  subst ex
  by_cases h : 2 ≤ b ∧ b ≤ 36
  · obtain ⟨c, rfl⟩ : ∃ c : Nat, b = c := ⟨b.toNat, by omega⟩
    exact walkOf w a0 cap xs lc hin hwf bd c (by omega) (by omega) hE
  · go_enter Tryd.func8, Tryd.ntmps8
    go_wp2_with (go_at_call 21; refine (based_no b _ h).mono ?_; rintro e w' ⟨rfl, rfl⟩)
    go_ret
    exact ⟨rfl, Below.refl _ _⟩
end fnListBack
namespace fnListBack
open Go.ChangeShapes Go.WideShapes Go.ChangeAt Go.RowKit
set_option maxRecDepth 100000 in
theorem contract (H : Type) (enc : TypeId × Value → H) (W : World) (base : Nat) (args : Array Value) (ds gs : List (DataW H)) (before : List MemPlace)
    (hval : ∀ (j : Nat) t v, Tryd.f8.params[j]? = some t → args[j]? = some v → Value.okWide Tryd.prog W .any base t v)
    (hW : DataW.Whole enc Tryd.prog Tryd.f8.params.toList Rows.fnListBackSpec.vars false W args.toList ds gs before) (hL : laidMet Tryd.prog Rows.fnListBackRow.laid W) (hsz : (DataW.weightsEach Tryd.prog (Tryd.f8.params.toList ++ (OpenSpec.ofChange Rows.fnListBackSpec).bare.plain.varTypes Tryd.prog) (ds ++ gs)).all (· ≤ reachBytes) = true) :
    Calls Tryd.prog 8 args W fun e W' => ∃ v, e = .returned v ∧ Rows.fnListBackSpec.post enc Tryd.prog Tryd.f8 false true false false W args v W' := by
  have hW' := hW
  obtain ⟨p, q, hA0, hV, rfl, hfz, hnd⟩ := hW
  have hA : DataW.TrodAll enc Tryd.prog W 0 (fun _ => true) true Tryd.f8.params.toList args.toList ds p := hA0
  rw [Tryd.params8] at hA hval hsz
  obtain ⟨v0, vs0, d0, ds0, p0, q0, hargs, rfl, rfl, h0, r0⟩ := trodAll_cons hA
  obtain ⟨v1, vs1, d1, ds1, p1, q1, rfl, rfl, rfl, h1, r1⟩ := trodAll_cons r0
  obtain ⟨rfl, rfl, rfl⟩ := trodAll_nil r1
  obtain rfl : args = #[v0, v1] := by cases args; simp_all
  obtain ⟨rfl, rfl⟩ := trodVars_none hV
  obtain ⟨a0, len0, cap0, rfl⟩ := okWide_slice Tryd.underlying22 (hval 0 22 v0 rfl rfl)
  obtain ⟨xs0, ex0, lc0, in0, wf0, hz0⟩ := opened_intz Tryd.underlying22 Tryd.underlying2 (by kernel_rfl) (by kernel_rfl) h0 hsz
  obtain ⟨x1, rfl, rfl, rfl, w1⟩ := open_int Tryd.underlying3 (hval 1 3 v1 rfl rfl) h1
  clear hA0
  simp only [List.append_nil] at hW'
  have hlt := fun x hx => hW'.lt x hx
  refine (walk a0 len0 cap0 xs0 ex0 lc0 W in0 wf0 hz0 x1 w1 (env_parse hL)).mono fun e W' ⟨he, hg⟩ => ?_
  subst he
  have hback := trodAll_cons_mk (Below.trod laidOut (by kernel_rfl) (of_decide_eq_true (by kernel_rfl)) h0 hg (fun x hx => hlt x (by simp [hx]))) (trodAll_cons_mk (shut_int Tryd.underlying3 w1) (trodAll_mk0))
  exact ⟨_, rfl, _, _, _, [], _, [], hW', trodAll_cons_mk (shut_bool Tryd.underlying4 _) trodAll_mk0, hback, rfl, hg.frame _, fun h => by cases h⟩

theorem plainList : laidMetH Tryd.prog Rows.fnListBackRow.laid = laidMet Tryd.prog Rows.fnListBackRow.laid := funext fun _ => MakeChecks.laidMetH_plain _ _ _ (by kernel_rfl)
theorem laid_met (os : Os) : laidMetH Tryd.prog Rows.fnListBackRow.laid ((World.laidAll Tryd.prog os Rows.fnListBackRow.laid).forCall (fun _ _ => 0) ⟨#[], #[.slice none 0 0, .int .i64 0], []⟩).memory := by
  rw [plainList]; exact laidMet_laidAll _ (by kernel_rfl) (by kernel_rfl)
theorem reads (os : Os) {H : Type} (enc : TypeId × Value → H) : ∃ places, DataW.whole enc Tryd.prog ((World.laidAll Tryd.prog os Rows.fnListBackRow.laid).forCall (fun _ _ => 0) ⟨#[], #[.slice none 0 0, .int .i64 0], []⟩).memory Tryd.f8.params.toList Rows.fnListBackSpec.vars false #[(.slice none 0 0 : Value), (.int .i64 0 : Value)].toList 8 = some ([.nil, .lit (.int .i64 0)], [], places) :=
  ⟨[], by kernel_rfl⟩

set_option maxRecDepth 100000 in
theorem lifted (os : Os) (started : os.Started) (H : Type) (enc : TypeId × Value → H) (F : Stop.Interp) :
    ReturnsInHanded {} Tryd.checked os 8 .any ((OpenSpec.ofChange Rows.fnListBackSpec).preRow enc Tryd.prog Tryd.f8 Rows.fnListBackRow.domain false Rows.fnListBackRow.laid) (((OpenSpec.ofChange Rows.fnListBackSpec).at F).post enc Tryd.prog Tryd.f8 false true false false) := by
  obtain ⟨places, hx⟩ := reads os enc
  refine returnsInHanded_of_row (C := Tryd.checked) (s := OpenSpec.ofChange Rows.fnListBackSpec) ownKnobs started (by kernel_rfl) Tryd.func8
    (witness_laid #[.slice none 0 0, .int .i64 0] (World.shaped_of_ZipB (by kernel_rfl) (by kernel_rfl)) (by kernel_rfl)
      (OpenSpec.preRow_of_cond 8 hx (by kernel_rfl) (fun k hk => by cases hk) (by kernel_rfl) (laid_met os))) ?_
  intro W base args ds gs before hval hW _ hcond hsz hL _ _
  have hL2 : laidMetH Tryd.prog Rows.fnListBackRow.laid W := hL
  rw [plainList] at hL2
  exact contract H enc W base args ds gs before hval hW hL2 hsz

theorem said : Rows.FnListBackSaid :=
  OpenClaim.holds_of_cond 8 Tryd.f8 rfl rfl rfl rfl rfl rfl rfl ⟨rfl, rfl, rfl, rfl, rfl⟩ rfl rfl rfl rfl rfl (by kernel_rfl) Tryd.func8 (by kernel_rfl)
    (of_decide_eq_true (by kernel_rfl)) (by unfold Func.isWrapper; first | (rw [if_pos (by decide +kernel)]; kernel_rfl) | (rw [if_neg (by decide +kernel)]; exact ⟨rfl, rfl⟩))
    (fun os started H enc _ F => by rw [OpenClaim.pre_eq_preRow]; exact lifted os started H enc F)

theorem plain (f : FuncId) (fn : Func) (hf : Tryd.pinned.checked.prog.funcNamed "loop.example/lib-g01429/laws.FnListBack" = some f) (hfn : Tryd.pinned.checked.prog.funcs[f]? = some fn) :
    true = Tryd.pinned.checked.prog.looks [] ∧ ∀ (j : Nat) t, fn.params[j]? = some t → Tryd.pinned.checked.prog.wantsStandIn t = false := by
  obtain rfl : f = 8 := Option.some.inj ((show Tryd.prog.funcNamed "loop.example/lib-g01429/laws.FnListBack" = some 8 by kernel_rfl).symm.trans hf) |>.symm
  obtain rfl : fn = Tryd.f8 := (Option.some.inj (Tryd.func8.symm.trans hfn)).symm
  refine ⟨by kernel_rfl, fun j t ht => ?_⟩
  rw [Tryd.params8] at ht
  have hm := Array.mem_of_getElem? ht
  simp only [List.mem_toArray, List.mem_cons, List.not_mem_nil, or_false] at hm
  rcases hm with rfl | rfl
  · exact (show Tryd.prog.wantsStandIn 22 = false by kernel_rfl)
  · exact (show Tryd.prog.wantsStandIn 3 = false by kernel_rfl)

/-- THE CARD. -/
theorem card : Rows.FnListBackCardSaid :=
  Claim7.holds_tied_plain_at .later [] _ _ _ _ said (fun _ h => by cases h) (by kernel_rfl) (fun _ h => by cases h) fnListBack_row_tie rfl ⟨rfl, rfl⟩ (by kernel_rfl) rfl plain (by kernel_rfl)
end fnListBack
end Go.Proofs.YtenepfefpoiddaaDoor
