/- FnNext returns true for all numbers and bases: the next number has one more in its last digit that is not the greatest one, and zeros behind it, or one and zeros alone. Conditions: none beyond the card's own. -/
import Derived.Test.YtjcejkenjmkinaaDoorText
import Derived.Lib.AtoiErrMem
namespace Go.Proofs.YtjcejkenjmkinaaDoor
open Go.RowKit
namespace fnNext

theorem val_nines {b : Nat} (hb : 2 ≤ b) (z : Nat) : val b (List.replicate z (b - 1)) + 1 = b ^ z := by
  induction z with
  | zero => simp [val]
  | succ z ih =>
    rw [List.replicate_succ, val_cons, List.length_replicate, Nat.pow_succ]
    obtain ⟨e, rfl⟩ : ∃ e, b = e + 1 := ⟨b - 1, by omega⟩
    simp only [Nat.add_sub_cancel, Nat.mul_add, Nat.mul_one] at *
    rw [Nat.mul_comm ((e + 1) ^ z) e]
    omega
theorem val_zeros' (b z : Nat) : val b (List.replicate z 0) = 0 := by
  have := val_zeros b z []
  simpa [val] using this

theorem next_mid {b x : Nat} (hb : 2 ≤ b) {P : List Nat} {d z : Nat} (h : digs b x = P ++ d :: List.replicate z (b - 1)) (hd : d + 1 < b) :
    digs b (x + 1) = P ++ (d + 1) :: List.replicate z 0 := by
  have hn := norm_digs hb x
  rw [h] at hn
  have hv := val_digs hb x
  rw [h, val_append, val_cons, List.length_cons, List.length_replicate] at hv
  have h9 := val_nines hb z
  refine digs_of hb ⟨by simp, ?_, ?_⟩ ?_
  · intro y hy
    rcases List.mem_append.1 hy with h1 | h1
    · exact hn.2.1 y (List.mem_append.2 (.inl h1))
    · rcases List.mem_cons.1 h1 with rfl | h2
      · exact hd
      · have := List.eq_of_mem_replicate h2; omega
  · intro h2
    cases P with
    | nil => simp
    | cons p P =>
      have := hn.2.2 (by simp; omega)
      simpa using this
  · rw [val_append, val_cons, List.length_cons, List.length_replicate, val_zeros', Nat.add_mul]
    omega
theorem next_all {b x n : Nat} (hb : 2 ≤ b) (h : digs b x = List.replicate n (b - 1)) : digs b (x + 1) = 1 :: List.replicate n 0 := by
  have hv := val_digs hb x
  rw [h] at hv
  have h9 := val_nines hb n
  refine digs_of hb ⟨by simp, ?_, fun _ => by simp⟩ ?_
  · intro y hy
    rcases List.mem_cons.1 hy with rfl | h2
    · omega
    · have := List.eq_of_mem_replicate h2; omega
  · rw [val_cons, List.length_replicate, val_zeros']
    omega

/-- The bytes when all digits from place t on are made zeros. -/
def ys (D : List Nat) (t : Nat) : List UInt8 := (D.take t).map dch ++ List.replicate (D.length - t) 48
theorem ys_len (D : List Nat) (t : Nat) (h : t ≤ D.length) : (ys D t).length = D.length := by simp [ys]; omega
theorem ys_get (D : List Nat) (t : Nat) (h : t < D.length) (h2 : t < (ys D (t + 1)).length) : (ys D (t + 1))[t] = dch D[t] := by
  simp only [ys]
  rw [List.getElem_append_left (by simp; omega)]
  simp
theorem ys_set (D : List Nat) (t : Nat) (h : t < D.length) (c : UInt8) : (ys D (t + 1)).set t c = (D.take t).map dch ++ c :: List.replicate (D.length - (t + 1)) 48 := by
  simp only [ys, List.take_succ_eq_append_getElem h, List.map_append, List.map_cons, List.map_nil, List.append_assoc, List.singleton_append]
  rw [List.set_append_right _ _ (by simp; omega)]
  simp only [List.length_map, List.length_take, Nat.min_eq_left (Nat.le_of_lt h), Nat.sub_self, List.set_cons_zero]
theorem ys_down (D : List Nat) (t : Nat) (h : t < D.length) : (ys D (t + 1)).set t 48 = ys D t := by
  rw [ys_set D t h, ys, ← List.replicate_succ]
  congr 2
  omega
theorem ys_top (D : List Nat) : ys D D.length = D.map dch := by simp [ys]
theorem ys_all (D : List Nat) : ys D 0 = (List.replicate D.length 0).map dch := by simp [ys, dch]

/-- A row of bytes in memory that may be written. -/
def Row (w : World) (g : Nat) (l : List UInt8) : Prop := ∀ j (_ : j < l.length), w.cell? ⟨g, j, none⟩ = some (.int .u8 (l[j].toNat : Int)) ∧ w.frozen? ⟨g, j, none⟩ = false
theorem Row.set {w : World} {g : Nat} {l : List UInt8} (h : Row w g l) (t : Nat) (c : UInt8) : Row (w.setCell ⟨g, t, none⟩ (.int .u8 (c.toNat : Int))) g (l.set t c) := by
  intro j hj
  have hj' : j < l.length := by simpa using hj
  obtain ⟨h1, h2⟩ := h j hj'
  refine ⟨?_, by rw [World.frozen?_setCell]; exact h2⟩
  by_cases e : t = j
  · subst e
    rw [World.cell?_setCell_same _ _ _ h1, List.getElem_set_self]
  · rw [World.cell?_setCell_other _ _ _ _ (by intro e'; cases e'; exact e rfl), List.getElem_set_ne e, h1]
theorem Row.bytes (w : World) (s : ByteArray) : Row (Lib.bytesWorld w 5 s) w.heap.size s.data.toList := by
  intro j hj
  have hl : s.data.toList.length = s.size := by rw [Array.length_toList]; rfl
  have hj' : j < s.size := by omega
  refine ⟨?_, ?_⟩
  · rw [Lib.bytesWorld_cell w _ s j hj']
    simp [List.getD_eq_getElem?_getD, List.getElem?_eq_getElem hj]
  · have h := Lib.bytesWorld_at_new w 5 s
    have hc := Lib.bytesWorld_cell w 5 s j hj'
    rw [cell_of_row _ _ j _ _ _ h] at hc
    have hlt : j < (Lib.bytesCells w 5 s).size := by
      by_cases hlt : j < (Lib.bytesCells w 5 s).size
      · exact hlt
      · rw [Array.getElem?_eq_none (by omega)] at hc
        cases hc
    simp only [World.frozen?, h]
    simp
    omega
theorem Row.conv {w : World} {g : Nat} {l : List UInt8} (h : Row w g l) (cap : Nat) : (convert 28 9 (.slice (some ⟨g, 0, none⟩) l.length cap)).run Tryd.prog w = .ok (.string (bs l)) w :=
  run_convert_bytes_back (P := Tryd.prog) w 28 9 5 ⟨g, 0, none⟩ cap l Tryd.underlying28 Tryd.underlying5 Tryd.underlying9 (fun j hj => by
    rw [Lib.add_plain, show 0 + j = j by omega]
    exact (h j hj).1)
theorem Row.below {w w' : World} {g : Nat} {l : List UInt8} (h : Row w g l) (hb : Below w.heap.size w w') (hg : g < w.heap.size) : Row w' g l := by
  intro j hj
  rw [hb.cell (p := ⟨g, j, none⟩) hg, hb.frozen (p := ⟨g, j, none⟩) hg]
  exact h j hj
theorem str_data (b u : Nat) : (str b u).data.toList = text b u := by simp [str]
theorem str_eq {b u : Nat} {l : List Nat} {m : List UInt8} (h : digs b u = l) (hm : l.map dch = m) : ((str b u).toList == (bs m).toList) = true := by
  rw [str_bs, bs_toList, bs_toList, text, h, hm]; simp
theorem str_digit {b d : Nat} (h : d < b) : str b d = bs [dch d] := by rw [str_bs, text, digs_lt h]; rfl

set_option maxHeartbeats 4000000 in
set_option maxRecDepth 100000 in
theorem walkOf (x b : Nat) (hx : x < 18446744073709551615) (hb : 2 ≤ b) (hb2 : b ≤ 36) (w : World) (hE : Env w.heap.size w) :
    Calls Tryd.prog 6 #[.int .u64 x, .int .i64 b] w fun e w' => e = .returned (.bool true) ∧ Below w.heap.size w w' := by
  have l1 := digs_len hb 63 x (by omega)
  have l0 := digs_pos b x
  have bA := digs_bd hb x
  have nmid := fun P d z => next_mid (x := x) hb (P := P) (d := d) (z := z)
  have nall := fun n => next_all (x := x) (n := n) hb
  have BA := Lib.hid bA
  have NM := Lib.hid nmid
  have NA := Lib.hid nall
  clear bA nmid nall
  have g1 : ((x : Int) == 18446744073709551615) = false := by simp; omega
  have sA := str_size b x
  go_enter Tryd.func6, Tryd.ntmps6
  go_wp2_with (go_at_call 10; refine (based_yes b _ hb hb2).mono ?_; rintro e w' ⟨rfl, rfl⟩)
  refine (FormatUint_any b x _ _ hb hb2 (by omega) hE).mono ?_
  rintro e w1 ⟨rfl, hw1⟩
  clear g1
  have hcv := Lib.run_convert_string_bytes (P := Tryd.prog) w1 9 28 5 (str b x) Tryd.underlying9 Tryd.underlying28 Tryd.underlying5
  have hrow := Row.bytes w1 (str b x)
  rw [str_data] at hrow
  have hbw : Below w.heap.size w (Lib.bytesWorld w1 5 (str b x)) := hw1.trans ((Lib.bytesWorld_below w1 _ _).mono hw1.size)
  have hgs := hw1.size
  have hgl : w1.heap.size < (Lib.bytesWorld w1 5 (str b x)).heap.size := by rw [Lib.bytesWorld_size]; omega
  have htx : text b x = ys (digs b x) (digs b x).length := by rw [ys_top]; rfl
  rw [htx] at hrow
  rw [sA] at hcv
  generalize Lib.bytesWorld w1 5 (str b x) = w2 at hcv hrow hbw hgl
  generalize grownCap w1 (digs b x).length 0 5 = cap at hcv
  generalize hg : w1.heap.size = g at hcv hrow hgs hgl
  have HROW := Lib.hid hrow
  have HTX := Lib.hid htx
  clear hrow htx hg
  go_wp2
  clear hcv
  go_loopw [6] (fun vi wr => ∃ t : Nat, vi = .int .i64 ((t : Int) - 1) ∧ t ≤ (digs b x).length ∧ Hid (Row wr g (ys (digs b x) t)) ∧ Hid ((digs b x).drop t = List.replicate ((digs b x).length - t) (b - 1)) ∧ g < wr.heap.size ∧ Below w.heap.size w wr) (fun vi _ => (intOf vi + 1).toNat)
  case atStart => exact ⟨_, rfl, Nat.le_refl _, HROW.out, by simp [Hid], hgl, hbw⟩
  case round =>
    obtain ⟨t, rfl, ht, HR, HD, hgr, hBr⟩ := hrel
    have hyl := ys_len (digs b x) t ht
    have HYL := Lib.hid hyl
    clear hyl
    have hconv := HR.out.conv cap
    rw [HYL.out] at hconv
    by_cases ht0 : 1 ≤ t
    · obtain ⟨t, rfl⟩ : ∃ t', t = t' + 1 := ⟨t - 1, by omega⟩
      rw [show ((t + 1 : Nat) : Int) - 1 = (t : Int) by omega]
      have ba := BA.out _ (List.getElem_mem (show t < (digs b x).length by omega))
      obtain ⟨hc1, hf1⟩ := HR.out t (by rw [HYL.out]; omega)
      have hch : (ys (digs b x) (t + 1))[t]'(by rw [HYL.out]; omega) = dch ((digs b x)[t]'(by omega)) := ys_get _ t (by omega) _
      rw [hch] at hc1
      have hdv := dval_dch (d := (digs b x)[t]'(by omega)) (by omega)
      have HDR : Hid ((digs b x).drop t = (digs b x)[t]'(by omega) :: List.replicate ((digs b x).length - (t + 1)) (b - 1)) := by
        show _ = _
        rw [← HD.out, List.drop_eq_getElem_cons (by omega)]
      have hset := fun c => HR.out.set t c
      have HSET := Lib.hid hset
      generalize hdd : (digs b x)[t]'(by omega) = d at ba hc1 hdv HDR
      have HDD := Lib.hid hdd
      clear hset hch hdd
      by_cases hd : d = b - 1
      · have g1 : ((d : Int) == (b : Int) - 1) = true := by simp; omega
        have hd' : d + 1 = b := by omega
        have HD1 := Lib.hid hd
        clear hd hd' hconv
        go_wp2_with (go_at_call 12; refine (Digit_any _ _).mono ?_; rintro e w' ⟨rfl, rfl⟩)
        go_roundw
        case rel =>
          refine ⟨t, rfl, by omega, ?_, ?_, by simpa using hgr, hBr.setCell hgs _⟩
          · have := HSET.out 48
            rw [ys_down _ t (by omega)] at this
            exact this
          · show _ = _
            rw [HDR.out, HD1.out, ← List.replicate_succ]
            congr 1
            omega
        case measure => simp [intOf]
      · have g1 : ((d : Int) == (b : Int) - 1) = false := by simp; omega
        have z2 : (bs (ys (digs b x) (t + 1))).size ≤ 64 := by rw [bs_size, HYL.out]; omega
        have hR := str_digit (b := 36) (d := d + 1) (by omega)
        have hd1 : d + 1 < b := by omega
        have z1 : (bs [dch (d + 1)]).size = 1 := by rw [bs_size]; rfl
        have hg0 : ((bs [dch (d + 1)])[0]'(by rw [z1]; omega)) = dch (d + 1) := rfl
        have hcg : w.heap.size ≤ g := hgs
        go_wp2_with (first
          | (go_at_call 12; refine (Digit_any _ _).mono ?_; rintro e w' ⟨rfl, rfl⟩)
          | (go_at_call 13; refine (Text_of _ 36 (d + 1) (by omega) _ (by decide) (by decide) (by omega)).mono ?_; rintro e w3 ⟨rfl, hw3⟩; refine Hid.out ?_))
        refine Lib.hid ?_
        have hrow3 := (HR.out.below hw3 hgr)
        obtain ⟨hc3, hf3⟩ := hrow3 t (by rw [HYL.out]; omega)
        have hs3 := hrow3.set t (dch (d + 1))
        rw [ys_set _ t (by omega)] at hs3
        have hcv3 := hs3.conv cap
        have hlen3 : (((digs b x).take t).map dch ++ dch (d + 1) :: List.replicate ((digs b x).length - (t + 1)) 48).length = (digs b x).length := by simp; omega
        rw [hlen3] at hcv3
        have hmid := NM.out ((digs b x).take t) d ((digs b x).length - (t + 1)) (by rw [← HDR.out, List.take_append_drop]) hd1
        have hmm : (((digs b x).take t) ++ (d + 1) :: List.replicate ((digs b x).length - (t + 1)) 0).map dch = ((digs b x).take t).map dch ++ dch (d + 1) :: List.replicate ((digs b x).length - (t + 1)) 48 := by
          rw [List.map_append, List.map_cons, List.map_replicate]; rfl
        have hB3 : Below w.heap.size w (w3.setCell ⟨g, t, none⟩ (.int .u8 ((dch (d + 1)).toNat : Int))) := (hBr.trans (hw3.mono hBr.size)).setCell hcg _
        generalize ((digs b x).take t).map dch ++ dch (d + 1) :: List.replicate ((digs b x).length - (t + 1)) 48 = Z at hcv3 hmm hlen3
        have HMID := Lib.hid hmid
        have HMM := Lib.hid hmm
        clear hmid hmm hs3 hlen3 hrow3 hc1 hf1 hconv
        go_wp2_with (go_at_call 11; refine (FormatUint_of _ b (x + 1) _ (by omega) _ hb hb2 (by omega) (hE.on hB3)).mono ?_; rintro e w4 ⟨rfl, hw4⟩)
        go_ret
        refine ⟨?_, hB3.trans (hw4.mono hB3.size)⟩
        show Ending.returned (Value.bool _) = _
        rw [str_eq HMID.out HMM.out]
    · obtain rfl : t = 0 := by omega
      rw [show ((0 : Nat) : Int) - 1 = -1 by omega]
      have z2 : (bs (ys (digs b x) 0)).size ≤ 64 := by rw [bs_size, HYL.out]; omega
      have hall := NA.out (digs b x).length (by have := HD.out; simpa using this)
      have HALL := Lib.hid hall
      clear hall
      go_wp2_with (go_at_call 11; refine (FormatUint_of _ b (x + 1) _ (by omega) _ hb hb2 (by omega) (hE.on hBr)).mono ?_; rintro e w3 ⟨rfl, hw3⟩)
      go_ret
      refine ⟨?_, hBr.trans (hw3.mono hBr.size)⟩
      show Ending.returned (Value.bool _) = _
      rw [bs_one, bs_append, str_eq HALL.out (by rw [ys_all]; simp [dch])]

theorem walk (x : Int) (wx : (Lit.int .u64 x).wf = true) (b : Int) (wb : (Lit.int .i64 b).wf = true) (w : World) (hE : Env w.heap.size w) :
    Calls Tryd.prog 6 #[.int .u64 x, .int .i64 b] w fun e w' => e = .returned (.bool true) ∧ Below w.heap.size w w' := by
  obtain ⟨x, rfl, hx⟩ := wf_u64 wx
  by_cases hb : 2 ≤ b ∧ b ≤ 36
  · obtain ⟨b, rfl⟩ : ∃ n : Nat, b = n := ⟨b.toNat, by omega⟩
    by_cases hxm : x < 18446744073709551615
    · exact walkOf x b hxm (by omega) (by omega) w hE
    · have g1 : ((x : Int) == 18446744073709551615) = true := by simp; omega
      go_enter Tryd.func6, Tryd.ntmps6
      go_wp2_with (go_at_call 10; refine (based_yes b _ (by omega) (by omega)).mono ?_; rintro e w' ⟨rfl, rfl⟩)
      go_ret
      exact ⟨rfl, Below.refl _ _⟩
  · go_enter Tryd.func6, Tryd.ntmps6
    go_wp2_with (go_at_call 10; refine (based_no b _ hb).mono ?_; rintro e w' ⟨rfl, rfl⟩)
    go_ret
    exact ⟨rfl, Below.refl _ _⟩
end fnNext
namespace fnNext
open Go.ChangeShapes Go.WideShapes Go.ChangeAt Go.RowKit
set_option maxRecDepth 100000 in
theorem contract (H : Type) (enc : TypeId × Value → H) (W : World) (base : Nat) (args : Array Value) (ds gs : List (DataW H)) (before : List MemPlace)
    (hval : ∀ (j : Nat) t v, Tryd.f6.params[j]? = some t → args[j]? = some v → Value.okWide Tryd.prog W .any base t v)
    (hW : DataW.Whole enc Tryd.prog Tryd.f6.params.toList Rows.fnNextSpec.vars false W args.toList ds gs before) (hL : laidMetH Tryd.prog Rows.fnNextRow.laid W) :
    Calls Tryd.prog 6 args W fun e W' => ∃ v, e = .returned v ∧ Rows.fnNextSpec.post enc Tryd.prog Tryd.f6 false true false false W args v W' := by
  have hW' := hW
  obtain ⟨p, q, hA0, hV, rfl, hfz, hnd⟩ := hW
  have hA : DataW.TrodAll enc Tryd.prog W 0 (fun _ => true) true Tryd.f6.params.toList args.toList ds p := hA0
  rw [Tryd.params6] at hA hval
  obtain ⟨v0, vs0, d0, ds0, p0, q0, hargs, rfl, rfl, h0, r0⟩ := trodAll_cons hA
  obtain ⟨v1, vs1, d1, ds1, p1, q1, rfl, rfl, rfl, h1, r1⟩ := trodAll_cons r0
  obtain ⟨rfl, rfl, rfl⟩ := trodAll_nil r1
  obtain rfl : args = #[v0, v1] := by cases args; simp_all
  obtain ⟨rfl, rfl⟩ := trodVars_none hV
  obtain ⟨x0, rfl, rfl, rfl, w0⟩ := open_int Tryd.underlying22 (hval 0 22 v0 rfl rfl) h0
  obtain ⟨x1, rfl, rfl, rfl, w1⟩ := open_int Tryd.underlying3 (hval 1 3 v1 rfl rfl) h1
  clear hA0
  simp only [List.append_nil] at hW'
  refine (walk x0 w0 x1 w1 W (env_of hL)).mono fun e W' ⟨he, hg⟩ => ?_
  subst he
  refine ⟨_, rfl, _, _, _, [], [], [], hW', ?_, ?_, rfl, hg.frame _, fun h => by cases h⟩
  · exact trodAll_cons_mk (shut_bool Tryd.underlying4 _) trodAll_mk0
  · exact trodAll_cons_mk (shut_int Tryd.underlying22 w0) (trodAll_cons_mk (shut_int Tryd.underlying3 w1) (trodAll_mk0))

theorem laid_met (os : Os) : laidMet Tryd.prog Rows.fnNextRow.laid ((laidWorld os).forCall (fun _ _ => 0) ⟨#[], #[.int .u64 0, .int .i64 0], []⟩).memory :=
  laidMet_of_run' 8 (by kernel_rfl) (by kernel_rfl)
theorem reads (os : Os) {H : Type} (enc : TypeId × Value → H) : ∃ places, DataW.whole enc Tryd.prog ((laidWorld os).forCall (fun _ _ => 0) ⟨#[], #[.int .u64 0, .int .i64 0], []⟩).memory Tryd.f6.params.toList Rows.fnNextSpec.vars false #[(.int .u64 0 : Value), (.int .i64 0 : Value)].toList 8 = some ([.lit (.int .u64 0), .lit (.int .i64 0)], [], places) :=
  ⟨[], by kernel_rfl⟩

set_option maxRecDepth 100000 in
theorem lifted (os : Os) (started : os.Started) (H : Type) (enc : TypeId × Value → H) (F : Stop.Interp) :
    ReturnsInHanded {} Tryd.checked os 6 .any ((OpenSpec.ofChange Rows.fnNextSpec).preRow enc Tryd.prog Tryd.f6 Rows.fnNextRow.domain false Rows.fnNextRow.laid) (((OpenSpec.ofChange Rows.fnNextSpec).at F).post enc Tryd.prog Tryd.f6 false true false false) := by
  obtain ⟨places, hx⟩ := reads os enc
  refine returnsInHanded_of_row (C := Tryd.checked) (s := OpenSpec.ofChange Rows.fnNextSpec) ownKnobs started (by kernel_rfl) Tryd.func6
    (witness_row_at (enc := enc) (C := Tryd.checked) false (laidWorld os) #[.int .u64 0, .int .i64 0] rfl (by kernel_rfl) (by kernel_rfl) (by kernel_rfl)
      (OpenSpec.preRow_of_cond 8 hx (by kernel_rfl) (fun k hk => by cases hk) (by kernel_rfl) (laid_met os))) ?_
  intro W base args ds gs before hval hW _ _ _ hL _ _
  exact contract H enc W base args ds gs before hval hW hL

theorem said : Rows.FnNextSaid :=
  OpenClaim.holds_of_cond 6 Tryd.f6 rfl rfl rfl rfl rfl rfl rfl ⟨rfl, rfl, rfl, rfl, rfl⟩ rfl rfl rfl rfl rfl (by kernel_rfl) Tryd.func6 (by kernel_rfl)
    (of_decide_eq_true (by kernel_rfl)) (by unfold Func.isWrapper; first | (rw [if_pos (by decide +kernel)]; kernel_rfl) | (rw [if_neg (by decide +kernel)]; exact ⟨rfl, rfl⟩))
    (fun os started H enc _ F => by rw [OpenClaim.pre_eq_preRow]; exact lifted os started H enc F)

theorem plain (f : FuncId) (fn : Func) (hf : Tryd.pinned.checked.prog.funcNamed "loop.example/lib-g01429/laws.FnNext" = some f) (hfn : Tryd.pinned.checked.prog.funcs[f]? = some fn) :
    false = Tryd.pinned.checked.prog.looks [] ∧ ∀ (j : Nat) t, fn.params[j]? = some t → Tryd.pinned.checked.prog.wantsStandIn t = false := by
  obtain rfl : f = 6 := Option.some.inj ((show Tryd.prog.funcNamed "loop.example/lib-g01429/laws.FnNext" = some 6 by kernel_rfl).symm.trans hf) |>.symm
  obtain rfl : fn = Tryd.f6 := (Option.some.inj (Tryd.func6.symm.trans hfn)).symm
  refine ⟨by kernel_rfl, fun j t ht => ?_⟩
  rw [Tryd.params6] at ht
  have hm := Array.mem_of_getElem? ht
  simp only [List.mem_toArray, List.mem_cons, List.not_mem_nil, or_false] at hm
  rcases hm with rfl | rfl
  · exact (show Tryd.prog.wantsStandIn 22 = false by kernel_rfl)
  · exact (show Tryd.prog.wantsStandIn 3 = false by kernel_rfl)

/-- THE CARD. -/
theorem card : Rows.FnNextCardSaid :=
  Claim7.holds_tied_plain_at .later [] _ _ _ _ said (fun _ h => by cases h) (by kernel_rfl) (fun _ h => by cases h) fnNext_row_tie rfl ⟨rfl, rfl⟩ (by kernel_rfl) rfl plain (by kernel_rfl)
end fnNext
end Go.Proofs.YtjcejkenjmkinaaDoor
