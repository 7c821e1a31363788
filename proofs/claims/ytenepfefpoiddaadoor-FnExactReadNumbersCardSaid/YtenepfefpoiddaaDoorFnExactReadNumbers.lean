/- FnExactReadNumbers returns true for all lists of words: ReadNumbers answers as the reference does, leaves its arguments alone and hands back memory of its own. Conditions: none beyond the card's own. -/
import Derived.Test.YtenepfefpoiddaaDoorSpecRead
import Derived.Test.YtenepfefpoiddaaDoorMarkR
namespace Go.Proofs.YtenepfefpoiddaaDoor
open Go.RowKit
namespace fnExactReadNumbers

theorem strs_row {w : World} {a : Option Addr} {xs : List ByteArray} (h : StrsIn w a xs) : RowIn w a (sCells xs) := by
  intro i hi
  have hi' : i < xs.length := by rw [sCells_len] at hi; exact hi
  obtain ⟨b, off, h1, h2⟩ := h i hi'
  exact ⟨b, off, h1, by rw [h2, s_at' xs i hi']⟩
theorem row_strs {w : World} {a : Option Addr} {xs : List ByteArray} (h : RowIn w a (sCells xs)) : StrsIn w a xs := by
  intro i hi
  obtain ⟨b, off, h1, h2⟩ := h i (by rw [sCells_len]; exact hi)
  exact ⟨b, off, h1, by rw [h2, s_at' xs i hi]⟩
theorem base_apart {w w' : World} {B B' : Nat} {e e' : TypeId} {k k' : Nat} {v v' : Value} {n n' : Nat} {xs xs' : List Value} (h : w.ownsRow B e k v n xs) (h' : w'.ownsRow B' e' k' v' n' xs') (hle : w.heap.size ≤ B') : v.ownBlock = none ∨ v.ownBlock ≠ v'.ownBlock := by
  cases hv : v.ownBlock with
  | none => exact .inl rfl
  | some g =>
    refine .inr fun heq => ?_
    have h1 := h.lt g hv
    have h2 := h'.lt g heq.symm
    omega

set_option maxHeartbeats 2000000 in
set_option maxRecDepth 100000 in
theorem walkOf (w : World) (a0 : Option Addr) (n cap : Nat) (ws : List ByteArray) (hn : ws.length = n) (hin : StrsIn w a0 ws) (hsz : ∀ s ∈ ws, s.size ≤ maxLen) (hnm : n ≤ maxLen) (hE : EnvP w) :
    Calls Tryd.prog 9 #[.slice a0 n cap] w fun e w' => e = .returned (.bool true) ∧ Below w.heap.size w w' := by
  obtain ⟨ar, ay, hErr⟩ := hE.errs
  have HSZ := Lib.hid (szStringS_any w a0 n cap ws hn (strs_row hin) hsz hnm)
  have HALL : Hid (n ≤ 1048576 ∧ (∀ s ∈ ws, s.size ≤ 1048576) → (∀ w1, Below w.heap.size w w1 → Calls Tryd.prog 28 #[.slice a0 n cap] w1 fun e w' => e = .returned (.slice (some ⟨w1.heap.size, 0, none⟩) n n) ∧ w'.ownsRow w1.heap.size 9 1 (.slice (some ⟨w1.heap.size, 0, none⟩) n n) n (sCells ws) ∧ Below w1.heap.size w1 w')
      ∧ (∀ w1 g, RowIn w1 (some ⟨g, 0, none⟩) (sCells ws) → Calls Tryd.prog 27 #[.slice (some ⟨g, 0, none⟩) n n] w1 fun e w' => ∃ v1 v2, e = .returned (.tuple #[v1, v2]) ∧ w'.ownsRow w1.heap.size 2 1 v1 n (iCells (ws.map fun s => (readOut s.data.toList).1)) ∧ w'.ownsRow w1.heap.size 3 1 v2 n (iCells (ws.map fun s => (readOut s.data.toList).2)) ∧ Below w1.heap.size w1 w')
      ∧ (∀ w1 g, Below w.heap.size w w1 → RowIn w1 (some ⟨g, 0, none⟩) (sCells ws) → Calls Tryd.prog 29 #[.slice (some ⟨g, 0, none⟩) n n] w1 fun e w' => ∃ v1 v2, e = .returned (.tuple #[v1, v2]) ∧ w'.ownsRow w1.heap.size 2 1 v1 n (iCells (ws.map fun s => (readOut s.data.toList).1)) ∧ w'.ownsRow w1.heap.size 3 1 v2 n (iCells (ws.map fun s => (readOut s.data.toList).2)) ∧ Below w1.heap.size w1 w')
      ∧ (∀ w1 a1 c1 a2 c2, RowIn w1 a1 (sCells ws) → RowIn w1 a2 (sCells ws) → Calls Tryd.prog 31 #[.slice a1 n c1, .slice a2 n c2] w1 fun e w' => e = .returned (.bool true) ∧ Below w1.heap.size w1 w')) :=
    Lib.hid fun hs => ⟨fun w1 h1 => toStringS_any w1 a0 n cap ws hn ((strs_row hin).on h1) hs.1,
      fun w1 g h1 => specRead_any w1 (some ⟨g, 0, none⟩) n n ws hn (Nat.le_refl _) (row_strs h1) hs.2 hs.1,
      fun w1 g hb h1 => ReadNumbers_any w1 (some ⟨g, 0, none⟩) n n ws hn (Nat.le_refl _) (row_strs h1) (fun s h => by have := hs.2 s h; omega) (by omega) ar ay (hErr.on hb),
      fun w1 a1 c1 a2 c2 h1 h2 => eqStringS_same w1 a1 a2 n c1 c2 ws hn h1 h2 (by omega)⟩
  have hl1 : (ws.map fun s => (readOut s.data.toList).1).length = n := by rw [List.length_map, hn]
  have hl2 : (ws.map fun s => (readOut s.data.toList).2).length = n := by rw [List.length_map, hn]
  rw [iCells_k, iCells_k] at HALL
  generalize (ws.map fun s => (readOut s.data.toList).1) = A1 at *
  generalize (ws.map fun s => (readOut s.data.toList).2) = A2 at *
  clear hn hin hsz hnm
  go_enter Tryd.func9, Tryd.ntmps9
  go_wp2_with (go_at_call 26; refine HSZ.out.mono ?_; rintro e w' ⟨r, rfl, rfl, hr⟩; refine Hid.out ?_)
  refine Lib.hid ?_
  by_cases hneg : r < 0
  · have g0 : decide (r < 0) = true := by simpa using hneg
    clear HSZ HALL hr
    go_wp2
    go_ret
    exact ⟨rfl, Below.refl _ _⟩
  have g0 : decide (r < 0) = false := by simpa using hneg
  have hs := hr (by omega)
  obtain ⟨hT, hSR, hIR, hES⟩ := HALL.out hs
  have bd := hs.1
  have HT := Lib.hid hT
  have HSR := Lib.hid hSR
  have HIR := Lib.hid hIR
  have HES := Lib.hid hES
  have HE1 : Hid (∀ w1 a1 c1 a2 c2, RowIn w1 a1 (kCells .i64 A1) → RowIn w1 a2 (kCells .i64 A1) → Calls Tryd.prog 17 #[.slice a1 n c1, .slice a2 n c2] w1 fun e w' => e = .returned (.bool true) ∧ Below w1.heap.size w1 w') :=
    Lib.hid fun w1 a1 c1 a2 c2 h1 h2 => eqInt64S_same w1 a1 a2 n c1 c2 A1 hl1 h1 h2 (by omega)
  have HE2 : Hid (∀ w1 a1 c1 a2 c2, RowIn w1 a1 (kCells .i64 A2) → RowIn w1 a2 (kCells .i64 A2) → Calls Tryd.prog 30 #[.slice a1 n c1, .slice a2 n c2] w1 fun e w' => e = .returned (.bool true) ∧ Below w1.heap.size w1 w') :=
    Lib.hid fun w1 a1 c1 a2 c2 h1 h2 => eqIntS_same w1 a1 a2 n c1 c2 A2 hl2 h1 h2 (by omega)
  have hca : ((1 + n : Nat) : Int) = 1 + (n : Int) := by omega
  have hcb : ((1 + n + n : Nat) : Int) = 1 + (n : Int) + (n : Int) := by omega
  have hMI := fun (w1 : World) (B : Nat) (a : Option Addr) (c : Nat) (l : List Value) (h : w1.ownsRow B 3 1 (.slice a n c) n l) => markIntS_any w1 B a n c (1 + n) l h (by omega)
  have hHI := fun (w1 : World) (a : Option Addr) (c : Nat) (h : RowIn w1 a (marks .i64 (1 + n) n)) => heldIntS_any w1 a n c (1 + n) h (by omega)
  rw [hca, hcb] at hMI hHI
  have HMI := Lib.hid hMI
  have HHI := Lib.hid hHI
  clear hT hSR hIR hES hs hr HALL HSZ hMI hHI hca hcb hl1 hl2
  go_wp2_with (go_at_call 28; refine (HT.out _ (Below.refl _ _)).mono ?_; rintro e w1 ⟨rfl, o1, hb1⟩; refine Hid.out ?_)
  refine Lib.hid ?_
  go_wp2_with (go_at_call 27; refine (HSR.out _ _ (own_rowIn o1)).mono ?_; rintro e w2 ⟨vw, vv, rfl, pW, pV, hb2⟩; refine Hid.out ?_)
  refine Lib.hid ?_
  clear o1
  have B2 := hb1.trans (hb2.mono hb1.size)
  obtain ⟨bw, cw, rfl⟩ := own_shape pW
  obtain ⟨bv, cv, rfl⟩ := own_shape pV
  go_wp2_with (go_at_call 28; refine (HT.out _ B2).mono ?_; rintro e w3 ⟨rfl, pX, hb3⟩; refine Hid.out ?_)
  refine Lib.hid ?_
  have B3 := B2.trans (hb3.mono B2.size)
  have qW := own_below pW hb3
  have qV := own_below pV hb3
  clear pW pV
  go_wp2_with (go_at_call 29; refine (HIR.out _ _ B3 (own_rowIn pX)).mono ?_; rintro e w4 ⟨vg, vh, rfl, pG, pH, hb4⟩; refine Hid.out ?_)
  refine Lib.hid ?_
  have B4 := B3.trans (hb4.mono B3.size)
  obtain ⟨bg, cg, rfl⟩ := own_shape pG
  obtain ⟨bh, ch, rfl⟩ := own_shape pH
  have rW := own_below qW hb4
  have rV := own_below qV hb4
  have rX := own_below pX hb4
  have apW := base_apart qW pG (Nat.le_refl _)
  have apV := base_apart qV pH (Nat.le_refl _)
  clear qW qV pX
  go_wp2_with (go_at_call 17; refine (HE1.out _ _ _ _ _ (own_rowIn pG) (own_rowIn rW)).mono ?_; rintro e w5 ⟨rfl, hb5⟩; refine Hid.out ?_)
  refine Lib.hid ?_
  have B5 := B4.trans (hb5.mono B4.size)
  have sW := own_below rW hb5
  have sV := own_below rV hb5
  have sX := own_below rX hb5
  have sG := own_below pG hb5
  have sH := own_below pH hb5
  clear rW rV rX pG pH
  go_wp2_with (go_at_call 30; refine (HE2.out _ _ _ _ _ (own_rowIn sH) (own_rowIn sV)).mono ?_; rintro e w6 ⟨rfl, hb6⟩; refine Hid.out ?_)
  refine Lib.hid ?_
  have B6 := B5.trans (hb6.mono B5.size)
  have tW := own_below sW hb6
  have tV := own_below sV hb6
  have tX := own_below sX hb6
  have tG := own_below sG hb6
  have tH := own_below sH hb6
  clear sW sV sX sG sH
  go_wp2_with (go_at_call 28; refine (HT.out _ B6).mono ?_; rintro e w7 ⟨rfl, pT, hb7⟩; refine Hid.out ?_)
  refine Lib.hid ?_
  have B7 := B6.trans (hb7.mono B6.size)
  have uW := own_below tW hb7
  have uV := own_below tV hb7
  have uX := own_below tX hb7
  have uG := own_below tG hb7
  have uH := own_below tH hb7
  clear tW tV tX tG tH
  go_wp2_with (go_at_call 31; refine (HES.out _ _ _ _ _ (own_rowIn uX) (own_rowIn pT)).mono ?_; rintro e w8 ⟨rfl, hb8⟩; refine Hid.out ?_)
  refine Lib.hid ?_
  have B8 := B7.trans (hb8.mono B7.size)
  have vW := own_below uW hb8
  have vV := own_below uV hb8
  have vX := own_below uX hb8
  have vG := own_below uG hb8
  have vH := own_below uH hb8
  clear uW uV uX uG uH pT
  go_wp2_with (go_at_call 32; refine (markStringS_any _ _ _ _ _ 1 _ vX (by omega) (by omega) (Nat.le_trans hb3.size (Nat.le_trans hb4.size (Nat.le_trans hb5.size (Nat.le_trans hb6.size (Nat.le_trans hb7.size hb8.size)))))).mono ?_; rintro e w9 ⟨rfl, hg9⟩; refine Hid.out ?_)
  refine Lib.hid ?_
  have B9 := B8.grown hg9 B8.size (fun k hk => Nat.le_trans B2.size (vX.lt k hk).1)
  have xW := vW.kept hg9 (rows_apart vW vX (by decide))
  have xV := vV.kept hg9 (rows_apart vV vX (by decide))
  have xG := vG.kept hg9 (rows_apart vG vX (by decide))
  have xH := vH.kept hg9 (rows_apart vH vX (by decide))
  clear vW vV vG vH vX hg9
  have gk : decide (1 + (n : Int) < 0) = false := by simp; omega
  go_wp2_with (go_at_call 17; refine (HE1.out _ _ _ _ _ (own_rowIn xG) (own_rowIn xW)).mono ?_; rintro e w10 ⟨rfl, hb10⟩; refine Hid.out ?_)
  refine Lib.hid ?_
  have B10 := B9.trans (hb10.mono B9.size)
  have yW := own_below xW hb10
  have yV := own_below xV hb10
  have yG := own_below xG hb10
  have yH := own_below xH hb10
  clear xW xV xG xH
  go_wp2_with (go_at_call 30; refine (HE2.out _ _ _ _ _ (own_rowIn yH) (own_rowIn yV)).mono ?_; rintro e w11 ⟨rfl, hb11⟩; refine Hid.out ?_)
  refine Lib.hid ?_
  have B11 := B10.trans (hb11.mono B10.size)
  have zW := own_below yW hb11
  have zV := own_below yV hb11
  have zG := own_below yG hb11
  have zH := own_below yH hb11
  clear yW yV yG yH
  go_wp2_with (go_at_call 18; refine (markInt64S_any _ _ _ _ _ 1 _ zG (by omega)).mono ?_; rintro e w12 ⟨rfl, aG, hg12⟩; refine Hid.out ?_)
  refine Lib.hid ?_
  have B12 := B11.grown hg12 B11.size (fun k hk => Nat.le_trans B3.size (zG.lt k hk).1)
  have aW := zW.kept hg12 apW
  have aV := zV.kept hg12 (rows_apart zV zG (by decide))
  have aH := zH.kept hg12 (rows_apart zH zG (by decide))
  clear zW zV zG zH hg12
  go_wp2_with (go_at_call 33; refine (HMI.out _ _ _ _ _ aH).mono ?_; rintro e w13 ⟨rfl, bH, hg13⟩; refine Hid.out ?_)
  refine Lib.hid ?_
  have B13 := B12.grown hg13 B12.size (fun k hk => Nat.le_trans B3.size (aH.lt k hk).1)
  have bW := aW.kept hg13 (rows_apart aW aH (by decide))
  have bV := aV.kept hg13 apV
  have bG := aG.kept hg13 (rows_apart aG aH (by decide))
  clear aW aV aG aH hg13
  go_wp2_with (go_at_call 34; refine (heldInt64S_any _ _ _ _ 1 (own_rowIn bG) (by omega)).mono ?_; rintro e w14 ⟨rfl, hb14⟩; refine Hid.out ?_)
  refine Lib.hid ?_
  have B14 := B13.trans (hb14.mono B13.size)
  have cW := own_below bW hb14
  have cV := own_below bV hb14
  have cG := own_below bG hb14
  have cH := own_below bH hb14
  clear bW bV bG bH
  go_wp2_with (go_at_call 35; refine (HHI.out _ _ _ (own_rowIn cH)).mono ?_; rintro e w15 ⟨rfl, hb15⟩; refine Hid.out ?_)
  refine Lib.hid ?_
  have B15 := B14.trans (hb15.mono B14.size)
  have dW := own_below cW hb15
  have dV := own_below cV hb15
  have dG := own_below cG hb15
  have dH := own_below cH hb15
  clear cW cV cG cH
  have gq : decide (1 + (n : Int) + (n : Int) < 0) = false := by simp; omega
  go_wp2_with (go_at_call 28; refine (HT.out _ B15).mono ?_; rintro e w16 ⟨rfl, pT, hb16⟩; refine Hid.out ?_)
  refine Lib.hid ?_
  have B16 := B15.trans (hb16.mono B15.size)
  have eW := own_below dW hb16
  have eV := own_below dV hb16
  have eG := own_below dG hb16
  have eH := own_below dH hb16
  clear dW dV dG dH
  go_wp2_with (go_at_call 29; refine (HIR.out _ _ B16 (own_rowIn pT)).mono ?_; rintro e w17 ⟨vp, vq, rfl, pP, pQ, hb17⟩; refine Hid.out ?_)
  refine Lib.hid ?_
  have B17 := B16.trans (hb17.mono B16.size)
  obtain ⟨bp, cp, rfl⟩ := own_shape pP
  obtain ⟨bq, cq, rfl⟩ := own_shape pQ
  have fW := own_below eW hb17
  have fV := own_below eV hb17
  have fG := own_below eG hb17
  have fH := own_below eH hb17
  clear eW eV eG eH pT
  go_wp2_with (go_at_call 17; refine (HE1.out _ _ _ _ _ (own_rowIn pP) (own_rowIn fW)).mono ?_; rintro e w18 ⟨rfl, hb18⟩; refine Hid.out ?_)
  refine Lib.hid ?_
  have B18 := B17.trans (hb18.mono B17.size)
  have gV := own_below fV hb18
  have gG := own_below fG hb18
  have gH := own_below fH hb18
  have gQ := own_below pQ hb18
  clear fW fV fG fH pP pQ
  go_wp2_with (go_at_call 30; refine (HE2.out _ _ _ _ _ (own_rowIn gQ) (own_rowIn gV)).mono ?_; rintro e w19 ⟨rfl, hb19⟩; refine Hid.out ?_)
  refine Lib.hid ?_
  have B19 := B18.trans (hb19.mono B18.size)
  have hG := own_below gG hb19
  have hH := own_below gH hb19
  clear gV gG gH gQ
  go_wp2_with (go_at_call 34; refine (heldInt64S_any _ _ _ _ 1 (own_rowIn hG) (by omega)).mono ?_; rintro e w20 ⟨rfl, hb20⟩; refine Hid.out ?_)
  refine Lib.hid ?_
  have B20 := B19.trans (hb20.mono B19.size)
  have iH := own_below hH hb20
  clear hG hH
  go_wp2_with (go_at_call 35; refine (HHI.out _ _ _ (own_rowIn iH)).mono ?_; rintro e w21 ⟨rfl, hb21⟩; refine Hid.out ?_)
  refine Lib.hid ?_
  go_wp2
  go_ret
  exact ⟨rfl, B20.trans (hb21.mono B20.size)⟩

theorem walk (a0 : Option Addr) (len cap : Nat) (ws : List ByteArray) (ex : ws.length = len) (lc : len ≤ cap) (cm : cap ≤ maxLen) (w : World) (hin : StrsIn w a0 ws) (hwf : ∀ s ∈ ws, s.size ≤ maxLen) (hE : EnvP w) :
    Calls Tryd.prog 9 #[.slice a0 len cap] w fun e w' => e = .returned (.bool true) ∧ Below w.heap.size w w' :=
  walkOf w a0 len cap ws ex hin hwf (Nat.le_trans lc cm) hE
end fnExactReadNumbers
namespace fnExactReadNumbers
open Go.ChangeShapes Go.WideShapes Go.ChangeAt Go.RowKit
set_option maxRecDepth 100000 in
theorem contract (H : Type) (enc : TypeId × Value → H) (W : World) (base : Nat) (args : Array Value) (ds gs : List (DataW H)) (before : List MemPlace)
    (hval : ∀ (j : Nat) t v, Tryd.f9.params[j]? = some t → args[j]? = some v → Value.okWide Tryd.prog W .any base t v)
    (hW : DataW.Whole enc Tryd.prog Tryd.f9.params.toList Rows.fnExactReadNumbersSpec.vars false W args.toList ds gs before) (hL : laidMet Tryd.prog Rows.fnExactReadNumbersRow.laid W) :
    Calls Tryd.prog 9 args W fun e W' => ∃ v, e = .returned v ∧ Rows.fnExactReadNumbersSpec.post enc Tryd.prog Tryd.f9 false true false false W args v W' := by
  have hW' := hW
  obtain ⟨p, q, hA0, hV, rfl, hfz, hnd⟩ := hW
  have hA : DataW.TrodAll enc Tryd.prog W 0 (fun _ => true) true Tryd.f9.params.toList args.toList ds p := hA0
  rw [Tryd.params9] at hA hval
  obtain ⟨v0, vs0, d0, ds0, p0, q0, hargs, rfl, rfl, h0, r0⟩ := trodAll_cons hA
  obtain ⟨rfl, rfl, rfl⟩ := trodAll_nil r0
  obtain rfl : args = #[v0] := by cases args; simp_all
  obtain ⟨rfl, rfl⟩ := trodVars_none hV
  obtain ⟨a0, len0, cap0, rfl⟩ := okWide_slice Tryd.underlying42 (hval 0 42 v0 rfl rfl)
  obtain ⟨xs0, ex0, lc0, cm0, in0, wf0, bk0⟩ := opened_strs Tryd.underlying42 Tryd.underlying9 (by kernel_rfl) h0
  clear hA0
  simp only [List.append_nil] at hW'
  have hlt := fun x hx => hW'.lt x hx
  refine (walk a0 len0 cap0 xs0 ex0 lc0 cm0 W in0 wf0 (env_parse hL)).mono fun e W' ⟨he, hg⟩ => ?_
  subst he
  have hback := trodAll_cons_mk (Below.trod laidOut (by kernel_rfl) (of_decide_eq_true (by kernel_rfl)) h0 hg (fun x hx => hlt x (by simp [hx]))) (trodAll_mk0)
  exact ⟨_, rfl, _, _, _, [], _, [], hW', trodAll_cons_mk (shut_bool Tryd.underlying4 _) trodAll_mk0, hback, rfl, hg.frame _, fun h => by cases h⟩

theorem plainList : laidMetH Tryd.prog Rows.fnExactReadNumbersRow.laid = laidMet Tryd.prog Rows.fnExactReadNumbersRow.laid := funext fun _ => MakeChecks.laidMetH_plain _ _ _ (by kernel_rfl)
theorem laid_met (os : Os) : laidMetH Tryd.prog Rows.fnExactReadNumbersRow.laid ((World.laidAll Tryd.prog os Rows.fnExactReadNumbersRow.laid).forCall (fun _ _ => 0) ⟨#[], #[.slice none 0 0], []⟩).memory := by
  rw [plainList]; exact laidMet_laidAll _ (by kernel_rfl) (by kernel_rfl)
theorem reads (os : Os) {H : Type} (enc : TypeId × Value → H) : ∃ places, DataW.whole enc Tryd.prog ((World.laidAll Tryd.prog os Rows.fnExactReadNumbersRow.laid).forCall (fun _ _ => 0) ⟨#[], #[.slice none 0 0], []⟩).memory Tryd.f9.params.toList Rows.fnExactReadNumbersSpec.vars false #[(.slice none 0 0 : Value)].toList 8 = some ([.nil], [], places) :=
  ⟨[], by kernel_rfl⟩

set_option maxRecDepth 100000 in
theorem lifted (os : Os) (started : os.Started) (H : Type) (enc : TypeId × Value → H) (F : Stop.Interp) :
    ReturnsInHanded {} Tryd.checked os 9 .any ((OpenSpec.ofChange Rows.fnExactReadNumbersSpec).preRow enc Tryd.prog Tryd.f9 Rows.fnExactReadNumbersRow.domain false Rows.fnExactReadNumbersRow.laid) (((OpenSpec.ofChange Rows.fnExactReadNumbersSpec).at F).post enc Tryd.prog Tryd.f9 false true false false) := by
  obtain ⟨places, hx⟩ := reads os enc
  refine returnsInHanded_of_row (C := Tryd.checked) (s := OpenSpec.ofChange Rows.fnExactReadNumbersSpec) ownKnobs started (by kernel_rfl) Tryd.func9
    (witness_laid #[.slice none 0 0] (World.shaped_of_ZipB (by kernel_rfl) (by kernel_rfl)) (by kernel_rfl)
      (OpenSpec.preRow_of_cond 8 hx (by kernel_rfl) (fun k hk => by cases hk) (by kernel_rfl) (laid_met os))) ?_
  intro W base args ds gs before hval hW _ hcond _ hL _ _
  have hL2 : laidMetH Tryd.prog Rows.fnExactReadNumbersRow.laid W := hL
  rw [plainList] at hL2
  exact contract H enc W base args ds gs before hval hW hL2

theorem said : Rows.FnExactReadNumbersSaid :=
  OpenClaim.holds_of_cond 9 Tryd.f9 rfl rfl rfl rfl rfl rfl rfl ⟨rfl, rfl, rfl, rfl, rfl⟩ rfl rfl rfl rfl rfl (by kernel_rfl) Tryd.func9 (by kernel_rfl)
    (of_decide_eq_true (by kernel_rfl)) (by unfold Func.isWrapper; first | (rw [if_pos (by decide +kernel)]; kernel_rfl) | (rw [if_neg (by decide +kernel)]; exact ⟨rfl, rfl⟩))
    (fun os started H enc _ F => by rw [OpenClaim.pre_eq_preRow]; exact lifted os started H enc F)

theorem plain (f : FuncId) (fn : Func) (hf : Tryd.pinned.checked.prog.funcNamed "loop.example/lib-g01429/laws.FnExactReadNumbers" = some f) (hfn : Tryd.pinned.checked.prog.funcs[f]? = some fn) :
    true = Tryd.pinned.checked.prog.looks [] ∧ ∀ (j : Nat) t, fn.params[j]? = some t → Tryd.pinned.checked.prog.wantsStandIn t = false := by
  obtain rfl : f = 9 := Option.some.inj ((show Tryd.prog.funcNamed "loop.example/lib-g01429/laws.FnExactReadNumbers" = some 9 by kernel_rfl).symm.trans hf) |>.symm
  obtain rfl : fn = Tryd.f9 := (Option.some.inj (Tryd.func9.symm.trans hfn)).symm
  refine ⟨by kernel_rfl, fun j t ht => ?_⟩
  rw [Tryd.params9] at ht
  obtain rfl : t = 42 := by simpa using Array.mem_of_getElem? ht
  exact (show Tryd.prog.wantsStandIn 42 = false by kernel_rfl)

/-- THE CARD. -/
theorem card : Rows.FnExactReadNumbersCardSaid :=
  Claim7.holds_tied_plain_at .later [] _ _ _ _ said (fun _ h => by cases h) (by kernel_rfl) (fun _ h => by cases h) fnExactReadNumbers_row_tie rfl ⟨rfl, rfl⟩ (by kernel_rfl) rfl plain (by kernel_rfl)
end fnExactReadNumbers
end Go.Proofs.YtenepfefpoiddaaDoor
