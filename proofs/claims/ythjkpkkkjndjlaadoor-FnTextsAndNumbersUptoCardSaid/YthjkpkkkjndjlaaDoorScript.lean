/- impl.AppendScript: the texts of its steps, one behind the other, in a buffer of the call's own. -/
import Derived.Test.YthjkpkkkjndjlaaDoorEnvT
import Derived.Test.YthjkpkkkjndjlaaDoorApps
import Derived.Test.YthjkpkkkjndjlaaDoorQGrow
import Derived.Test.YthjkpkkkjndjlaaDoorSlices
namespace Go.Proofs.YthjkpkkkjndjlaaDoor
open Go.RowKit

theorem PrintOk.on {T : Lib.PrintTabs} {G : List Nat} {w w' : World} (h : PrintOk T G w) (hb : Below w.heap.size w w') : PrintOk T G w' := ⟨h.1, fun w2 hb2 => h.2 w2 (hb.trans (hb2.mono hb.size))⟩
theorem Utf8Ok.on {w w' : World} (h : Utf8Ok w) (hb : Below w.heap.size w w') : Utf8Ok w' := fun w2 hb2 => h w2 (hb.trans (hb2.mono hb.size))
theorem Env.same {B : Nat} {w w' : World} (h : Env B w) (hb : Below w.heap.size w w') : Env w'.heap.size w' :=
  ⟨fun w2 h2 => h.pow w2 ((hb.mono h.le).trans (h2.mono (Nat.le_trans h.le hb.size))), fun w2 h2 => h.dbj w2 ((hb.mono h.le).trans (h2.mono (Nat.le_trans h.le hb.size))), Nat.le_refl _⟩
theorem EnvS.on {w w' : World} (h : EnvS w) (hb : Below w.heap.size w w') : EnvS w' := ⟨h.nums.same hb, h.print.on hb, h.utf8.on hb⟩

def zI (l : List UInt8) : List Int := l.map fun c => (c.toNat : Int)
theorem zI_len (l : List UInt8) : (zI l).length = l.length := by simp [zI]
theorem bCells_zI (l : List UInt8) : bCells l = Lib.intCells (zI l) := by simp [bCells, Lib.intCells, zI]
theorem nb_zI (l : List UInt8) : nb (zI l) = l := by
  simp only [nb, zI, List.map_map]
  conv => rhs; rw [← List.map_id l]
  apply List.map_congr_left
  intro c _
  simp
theorem nb_append (l r : List Int) : nb (l ++ r) = nb l ++ nb r := by simp [nb]
theorem intCells_append (l r : List Int) : Lib.intCells (l ++ r) = Lib.intCells l ++ Lib.intCells r := by simp [Lib.intCells]
theorem intCells_len (l : List Int) : (Lib.intCells l).length = l.length := by simp [Lib.intCells]
theorem intCells_one (l : List Int) : ∀ v ∈ Lib.intCells l, v.oneCell' = true := by
  intro v hv
  obtain ⟨z, _, rfl⟩ := List.mem_map.1 hv
  rfl

abbrev pQ : Int → Bool := pr Lib.goPrintTabs grTab false false
abbrev pA : Int → Bool := pr Lib.goPrintTabs grTab true false

/-- What one step of a script gives. -/
def stepZ (k x : Int) (s : List UInt8) : List Int :=
  if k = 0 then zI (itext 10 x) else if k = 1 then zI (text 16 (x % 18446744073709551616).toNat) else if k = 2 then qZ pQ s else if k = 3 then qZ pA s else if k = 4 then zI (boolT (x.tmod 2 != 0)) else zI (itext 36 x)
theorem itext_bd {b : Nat} (hb : 2 ≤ b) {x : Int} (h0 : -9223372036854775808 ≤ x) (h1 : x ≤ 9223372036854775807) : 1 ≤ (itext b x).length ∧ (itext b x).length ≤ 65 := by
  have hl := digs_len hb 63 x.natAbs (by omega)
  have hp := digs_pos b x.natAbs
  unfold itext
  split
  · rw [List.length_cons, text_len]; omega
  · rw [text_len]; omega
theorem qZ_pos (p : Int → Bool) (l : List UInt8) : 1 ≤ (qZ p l).length := by simp [qZ]
theorem stepZ_len (k x : Int) (s : List UInt8) (h0 : -9223372036854775808 ≤ x) (h1 : x ≤ 9223372036854775807) : 1 ≤ (stepZ k x s).length ∧ (stepZ k x s).length ≤ 10 * s.length + 65 := by
  have i10 := itext_bd (b := 10) (by omega) h0 h1
  have i36 := itext_bd (b := 36) (by omega) h0 h1
  have t16 : 1 ≤ (text 16 (x % 18446744073709551616).toNat).length ∧ (text 16 (x % 18446744073709551616).toNat).length ≤ 64 := by
    rw [text_len]
    exact ⟨digs_pos _ _, digs_len (by omega) 63 _ (by omega)⟩
  have q2 := qZ_len pQ s
  have q3 := qZ_len pA s
  have q2' := qZ_pos pQ s
  have q3' := qZ_pos pA s
  unfold stepZ
  split
  · rw [zI_len]; omega
  · split
    · rw [zI_len]; omega
    · split
      · omega
      · split
        · omega
        · split
          · rw [zI_len]
            unfold boolT
            split <;> simp <;> omega
          · rw [zI_len]; omega

def scriptZ (K N : List Int) (T : List ByteArray) (j : Nat) : List Int := ((List.range j).map fun i => stepZ (K.getD i 0) (N.getD i 0) (T.getD i ByteArray.empty).data.toList).flatten
theorem scriptZ_succ (K N : List Int) (T : List ByteArray) (j : Nat) (h1 : j < K.length) (h2 : j < N.length) (h3 : j < T.length) : scriptZ K N T (j + 1) = scriptZ K N T j ++ stepZ (K[j]'h1) (N[j]'h2) (T[j]'h3).data.toList := by
  simp [scriptZ, List.range_succ, List.getD, h1, h2, h3]
def bulkT (T : List ByteArray) : Nat := (T.map (fun s => s.size + 1)).sum
theorem bulk_take (T : List ByteArray) (j : Nat) (h : j < T.length) : bulkT (T.take (j + 1)) = bulkT (T.take j) + ((T[j]'h).size + 1) := by
  rw [bulkT, bulkT, ← List.take_append_getElem h, List.map_append, List.sum_append]; simp
theorem bulk_le (T : List ByteArray) (j : Nat) : bulkT (T.take j) ≤ bulkT T := by
  have : T = T.take j ++ T.drop j := (List.take_append_drop j T).symm
  have e : bulkT T = bulkT (T.take j) + bulkT (T.drop j) := by
    conv => lhs; rw [this]
    simp only [bulkT, List.map_append, List.sum_append]
  omega
theorem bulk_mem (T : List ByteArray) (j : Nat) (h : j < T.length) : (T[j]'h).size + 1 ≤ bulkT T := by
  have h1 := bulk_take T j h
  have h2 := bulk_le T (j + 1)
  omega
theorem scriptZ_len (K N : List Int) (T : List ByteArray) (hwf : ∀ x ∈ N, (Lit.int .i64 x).wf = true) : ∀ j, j ≤ K.length → j ≤ N.length → j ≤ T.length → j ≤ (scriptZ K N T j).length ∧ (scriptZ K N T j).length ≤ 10 * bulkT (T.take j) + 65 * j
  | 0, _, _, _ => by simp [scriptZ]
  | j + 1, h1, h2, h3 => by
    have ih := scriptZ_len K N T hwf j (by omega) (by omega) (by omega)
    have hx := wf_i64 (hwf _ (List.getElem_mem (show j < N.length by omega)))
    have hs := stepZ_len (K[j]'(by omega)) (N[j]'(by omega)) (T[j]'(by omega)).data.toList hx.1 hx.2
    have hl : (T[j]'(by omega)).data.toList.length = (T[j]'(by omega)).size := Array.length_toList
    rw [scriptZ_succ K N T j (by omega) (by omega) (by omega), List.length_append, bulk_take T j (by omega)]
    omega

set_option maxHeartbeats 2000000 in
set_option maxRecDepth 100000 in
theorem AppendScript_any (w : World) (a1 a2 a3 : Option Addr) (n1 n2 n3 c1 c2 c3 : Nat) (K N : List Int) (T : List ByteArray) (e1 : K.length = n1) (e2 : N.length = n2) (e3 : T.length = n3)
    (i1 : IntsIn w a1 K) (i2 : IntsIn w a2 N) (i3 : StrsIn w a3 T) (hwf : ∀ x ∈ N, (Lit.int .i64 x).wf = true) (hb1 : n1 ≤ 1048576) (hb3 : bulkT T ≤ 1048576) (hE : EnvS w) :
    Calls Tryd.prog 22 #[.slice a1 n1 c1, .slice a2 n2 c2, .slice a3 n3 c3] w (BufPost w.heap.size w (Lib.intCells (scriptZ K N T (min (min n1 n2) n3)))) := by
  obtain ⟨m, hm⟩ : ∃ m, m = min (min n1 n2) n3 := ⟨_, rfl⟩
  rw [← hm]
  have g1 : m ≤ n1 := by omega
  have g2 : m ≤ n2 := by omega
  have g3 : m ≤ n3 := by omega
  have HM := Lib.hid hm
  have H1 := Lib.hid i1
  have H2 := Lib.hid i2
  have H3 := Lib.hid i3
  have HW := Lib.hid hwf
  have E1 := Lib.hid e1
  have E2 := Lib.hid e2
  have E3 := Lib.hid e3
  have HEN := Lib.hid hE
  clear hm i1 i2 i3 hwf e1 e2 e3 hE
  go_enter Tryd.func22, Tryd.ntmps22
  go_wp2
  go_loopw [7, 8] (fun vo vj wr => ∃ j : Nat, j ≤ m ∧ vj = .int .i64 j ∧ Lib.OwnBuf w.heap.size 5 vo (Lib.intCells (scriptZ K N T j)).length (Lib.intCells (scriptZ K N T j)) w wr) (fun _ vj _ => m - (intOf vj).toNat)
  case atStart => exact ⟨0, by omega, rfl, World.ownsRowF_nil _ _ _ _, Below.refl _ _, Nat.le_refl _⟩
  case round =>
    obtain ⟨j, hj, rfl, ob⟩ := hrel
    by_cases hlt : j < m
    · have j1 : j < K.length := by rw [E1.out]; omega
      have j2 : j < N.length := by rw [E2.out]; omega
      have j3 : j < T.length := by rw [E3.out]; omega
      obtain ⟨b1, o1, rfl, k1⟩ := (H1.out.on ob.2.1) j j1
      obtain ⟨b2, o2, rfl, k2⟩ := (H2.out.on ob.2.1) j j2
      obtain ⟨b3, o3, rfl, k3⟩ := (H3.out.on ob.2.1) j j3
      have hx := wf_i64 (HW.out _ (List.getElem_mem j2))
      have hsl := scriptZ_len K N T HW.out j (by omega) (by omega) (by omega)
      have hbt := bulk_le T j
      have hsz := bulk_mem T j j3
      have hX := scriptZ_succ K N T j j1 j2 j3
      have hts : (T[j]'j3).data.toList.length = (T[j]'j3).size := Array.length_toList
      rw [← hts] at hsz
      clear hts
      have hbe : bs (T[j]'j3).data.toList = (T[j]'j3) := bs_eta _
      generalize K[j] = k at *
      generalize N[j] = x at *
      generalize hS : T[j] = S at *
      have HX := Lib.hid hX
      clear hX hS
      obtain ⟨l, hl⟩ : ∃ l, l = S.data.toList := ⟨_, rfl⟩
      rw [← hl] at HX hsz hbe
      clear hl
      subst hbe
      generalize hZ : scriptZ K N T j = Z at *
      have hzl : Z.length ≤ 78643200 := by omega
      have hcl := intCells_len Z
      have HIX : Hid True := trivial
      clear hZ hsl hbt
      have hlen : (Lib.intCells Z).length ≤ 78643200 := by omega
      have hll : l.length ≤ 1048576 := by omega
      clear hcl hzl hsz
      have f1 : decide (j < n1) = true := by simp; omega
      have f2 : decide (j < n2) = true := by simp; omega
      have f3 : decide (j < n3) = true := by simp; omega
      by_cases q0 : k = 0
      · subst q0
        have HF := Lib.hid (sAppendInt_any w.heap.size w _ _ _ 10 x wr (by omega) (by omega) hx.1 hx.2 ob (by omega) HEN.out.nums)
        have hst : stepZ 0 x l = zI (itext 10 x) := if_pos rfl
        have HST := Lib.hid hst
        clear hst ob HIX
        go_wp2_with (go_at_call 33; refine HF.out.mono ?_; rintro e w2 ⟨v2, rfl, hb2⟩; refine Hid.out ?_)
        refine Lib.hid ?_
        have hb3 := hb2
        rw [bCells_zI, ← intCells_append, ← HST.out, ← HX.out] at hb3
        have HB := Lib.hid hb3
        clear hb2 hb3
        go_wp2
        exact ⟨⟨j + 1, by omega, by go_num, HB.out⟩, by simp [intOf]; omega⟩
      by_cases q1 : k = 1
      · subst q1
        obtain ⟨u, hu⟩ : ∃ u : Nat, (x % 18446744073709551616).toNat = u := ⟨_, rfl⟩
        have hwu : IntKind.u64.wrap x = (u : Int) := by rw [IntKind.wrap_u64]; omega
        have HF := Lib.hid (sAppendUint_any w.heap.size w.heap.size w _ _ _ 16 u wr (by omega) (by omega) (by omega) ob (by omega) (HEN.out.nums.on ob.2.1))
        have hst : stepZ 1 x l = zI (text 16 u) := by rw [stepZ, if_neg (by decide), if_pos rfl, hu]
        have HST := Lib.hid hst
        clear hst ob HIX
        go_wp2_with (go_at_call 34; refine HF.out.mono ?_; rintro e w2 ⟨v2, rfl, hb2⟩; refine Hid.out ?_)
        refine Lib.hid ?_
        have hb3 := hb2
        rw [bCells_zI, ← intCells_append, ← HST.out, ← HX.out] at hb3
        have HB := Lib.hid hb3
        clear hb2 hb3
        go_wp2
        exact ⟨⟨j + 1, by omega, by go_num, HB.out⟩, by simp [intOf]; omega⟩
      have p0 : (k == 0) = false := by simpa using q0
      have p1 : (k == 1) = false := by simpa using q1
      by_cases q2 : k = 2
      · subst q2
        have HF := Lib.hid (AppendQuote_any Lib.goPrintTabs grTab _ _ l w wr ob (intCells_one Z) (by omega) HEN.out.print HEN.out.utf8)
        have hst : stepZ 2 x l = qZ pQ l := by rw [stepZ, if_neg (by decide), if_neg (by decide), if_pos rfl]
        have HST := Lib.hid hst
        clear hst ob HIX
        go_wp2_with (go_at_call 35; refine HF.out.mono ?_; rintro e w2 ⟨v2, rfl, hb2⟩; refine Hid.out ?_)
        refine Lib.hid ?_
        have hb3 := hb2
        rw [← intCells_append, ← HST.out, ← HX.out] at hb3
        have HB := Lib.hid hb3
        clear hb2 hb3
        go_wp2
        exact ⟨⟨j + 1, by omega, by go_num, HB.out⟩, by simp [intOf]; omega⟩
      have p2 : (k == 2) = false := by simpa using q2
      by_cases q3 : k = 3
      · subst q3
        have HF := Lib.hid (AppendQuoteToASCII_any Lib.goPrintTabs grTab _ _ l w wr ob (intCells_one Z) (by omega) HEN.out.utf8)
        have hst : stepZ 3 x l = qZ pA l := by rw [stepZ, if_neg (by decide), if_neg (by decide), if_neg (by decide), if_pos rfl]
        have HST := Lib.hid hst
        clear hst ob HIX
        go_wp2_with (go_at_call 36; refine HF.out.mono ?_; rintro e w2 ⟨v2, rfl, hb2⟩; refine Hid.out ?_)
        refine Lib.hid ?_
        have hb3 := hb2
        rw [← intCells_append, ← HST.out, ← HX.out] at hb3
        have HB := Lib.hid hb3
        clear hb2 hb3
        go_wp2
        exact ⟨⟨j + 1, by omega, by go_num, HB.out⟩, by simp [intOf]; omega⟩
      have p3 : (k == 3) = false := by simpa using q3
      by_cases q4 : k = 4
      · subst q4
        have HF := Lib.hid (sAppendBool_any w.heap.size w _ _ _ (x.tmod 2 != 0) wr ob (by omega))
        have hst : stepZ 4 x l = zI (boolT (x.tmod 2 != 0)) := by rw [stepZ, if_neg (by decide), if_neg (by decide), if_neg (by decide), if_neg (by decide), if_pos rfl]
        have HST := Lib.hid hst
        clear hst ob HIX
        go_wp2_with (go_at_call 37; refine HF.out.mono ?_; rintro e w2 ⟨v2, rfl, hb2⟩; refine Hid.out ?_)
        refine Lib.hid ?_
        have hb3 := hb2
        rw [bCells_zI, ← intCells_append, ← HST.out, ← HX.out] at hb3
        have HB := Lib.hid hb3
        clear hb2 hb3
        go_wp2
        exact ⟨⟨j + 1, by omega, by go_num, HB.out⟩, by simp [intOf]; omega⟩
      have p4 : (k == 4) = false := by simpa using q4
      have HF := Lib.hid (sAppendInt_any w.heap.size w _ _ _ 36 x wr (by omega) (by omega) hx.1 hx.2 ob (by omega) HEN.out.nums)
      have hst : stepZ k x l = zI (itext 36 x) := by rw [stepZ, if_neg q0, if_neg q1, if_neg q2, if_neg q3, if_neg q4]
      have HST := Lib.hid hst
      clear hst ob HIX
      go_wp2_with (go_at_call 33; refine HF.out.mono ?_; rintro e w2 ⟨v2, rfl, hb2⟩; refine Hid.out ?_)
      refine Lib.hid ?_
      have hb3 := hb2
      rw [bCells_zI, ← intCells_append, ← HST.out, ← HX.out] at hb3
      have HB := Lib.hid hb3
      clear hb2 hb3
      go_wp2
      exact ⟨⟨j + 1, by omega, by go_num, HB.out⟩, by simp [intOf]; omega⟩
    · obtain rfl : j = m := by omega
      have HOB := Lib.hid ob
      clear ob
      have hcase : (n1 ≤ j ∨ n2 ≤ j) ∨ n3 ≤ j := by have := HM.out; omega
      by_cases h1 : j < n1
      · by_cases h2 : j < n2
        · have h3 : ¬ j < n3 := by omega
          have f3 : decide (j < n3) = false := by simp; omega
          have f1 : decide (j < n1) = true := by simp; omega
          have f2 : decide (j < n2) = true := by simp; omega
          go_wp2
          go_ret
          exact ⟨_, rfl, HOB.out⟩
        · have f2 : decide (j < n2) = false := by simp; omega
          have f1 : decide (j < n1) = true := by simp; omega
          go_wp2
          go_ret
          exact ⟨_, rfl, HOB.out⟩
      · have f1 : decide (j < n1) = false := by simp; omega
        go_wp2
        go_ret
        exact ⟨_, rfl, HOB.out⟩
end Go.Proofs.YthjkpkkkjndjlaaDoor
