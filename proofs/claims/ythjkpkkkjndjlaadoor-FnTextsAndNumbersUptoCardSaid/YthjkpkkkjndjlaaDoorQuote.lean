/- Quote, QuoteToASCII, QuoteToGraphic: appendEscapedRune for each of the three, quoteWith, and the calls above it. -/
import Derived.Test.YthjkpkkkjndjlaaDoorQuoted
import Derived.Test.YthjkpkkkjndjlaaDoorEscA
import Derived.Test.YthjkpkkkjndjlaaDoorEscG
namespace Go.Proofs.YthjkpkkkjndjlaaDoor
open Go.RowKit

/-- strconv's tables lie as they are laid, whatever is done from W0's blocks on. -/
def PrintOk (T : Lib.PrintTabs) (G : List Nat) (W0 : World) : Prop := (0 < G.length ∧ G.length ≤ 4611686018427387904) ∧
  ∀ w', Below W0.heap.size W0 w' → Lib.PrintTabsAt 6 7 8 9 T w' ∧ Lib.TabSlice 10 .u16 G w'

theorem valid_bd {r : Int} (hv : Lib.validRune r = true) : 0 ≤ r ∧ r ≤ 1114111 := by
  simp [Lib.validRune] at hv; omega
theorem escT_hex {r : Int} (hn : ¬ (r = 7 ∨ r = 8 ∨ r = 12 ∨ r = 10 ∨ r = 13 ∨ r = 9 ∨ r = 11)) (hx : r < 32 ∨ r = 127) : escT r = [92, 120, Lib.hexDigit (r.toNat / 16), Lib.hexDigit (r.toNat % 16)] := by
  unfold escT
  rw [if_neg (by omega), if_neg (by omega), if_neg (by omega), if_neg (by omega), if_neg (by omega), if_neg (by omega), if_neg (by omega), if_pos hx]
theorem escT_u4 {r : Int} (h80 : 128 ≤ r) (h : r < 65536) : escT r = 92 :: 117 :: Lib.hexDigits r.toNat 4 := by
  unfold escT
  rw [if_neg (by omega), if_neg (by omega), if_neg (by omega), if_neg (by omega), if_neg (by omega), if_neg (by omega), if_neg (by omega), if_neg (by omega), if_pos h]
theorem escT_u8 {r : Int} (h : 65536 ≤ r) : escT r = 92 :: 85 :: Lib.hexDigits r.toNat 8 := by
  unfold escT
  rw [if_neg (by omega), if_neg (by omega), if_neg (by omega), if_neg (by omega), if_neg (by omega), if_neg (by omega), if_neg (by omega), if_neg (by omega), if_neg (by omega)]
theorem escRune_eq (T : Lib.PrintTabs) (G : List Nat) {r : Int} (hv : Lib.validRune r = true) : Lib.escRune T r = escR (pr T G false false) 34 r := by
  have hp : pr T G false false r = Lib.isPrintR T r := by simp [pr]
  unfold Lib.escRune escR
  rw [hp, hv]
  simp only [escT]
  simp
theorem print_low {T : Lib.PrintTabs} {r : Int} (hp : Lib.isPrintR T r = false) (h32 : ¬ (r < 32 ∨ r = 127)) : 128 ≤ r := by
  by_cases h : r ≤ 126
  · exfalso
    have a : r ≤ 255 := by omega
    simp only [Lib.isPrintR, if_pos a, Lib.isPrintLatin] at hp
    simp at hp; omega
  · omega

theorem escOk_P (T : Lib.PrintTabs) (G : List Nat) (W0 : World) (hT : PrintOk T G W0) : EscOk (pr T G false false) false false W0 := by
  intro v n xs r w hb hlen hv
  have h := Tryd.strconv_appendEscapedRune T W0.heap.size v n xs r W0 w hb hlen (hT.2 w hb.2.1).1 hv
  rwa [escRune_eq T G hv] at h

theorem escOk_A (T : Lib.PrintTabs) (G : List Nat) (W0 : World) : EscOk (pr T G true false) true false W0 := by
  intro v n xs r w hb hlen hv
  obtain ⟨hr0, hr1⟩ := valid_bd hv
  have hP : r < 128 → Calls Tryd.prog 85 #[.int .i32 r] w fun e w' => e = .returned (.bool (Lib.isPrintLatin r)) ∧ ∃ q, w' = w.drewN q := fun h =>
    (Tryd.strconv_IsPrint_latin r w (by omega)).mono fun e w' ⟨he, hw⟩ => ⟨he, 0, by rw [hw]; rfl⟩
  have hpl : r < 128 → pr T G true false r = Lib.isPrintLatin r := fun h => by
    have a : r ≤ 255 := by omega
    simp [pr, h, Lib.isPrintR, a]
  unfold escR
  by_cases hq : r = 34 ∨ r = 92
  · simp only [if_pos hq]
    exact escA_quoted W0.heap.size v n xs r W0 w hb hlen hr0 hr1 hq
  simp only [if_neg hq]
  by_cases h128 : r < 128
  · have hP' := hP h128
    by_cases hp : Lib.isPrintLatin r = true
    · rw [if_pos (by rw [hpl h128]; exact hp), Lib.encodeRuneZ_one hr0 (by omega)]
      rw [hp] at hP'
      exact escA_printed W0.heap.size v n xs r W0 w hb hlen hr0 hr1 hq h128 hP'
    · have hp' : Lib.isPrintLatin r = false := by simpa using hp
      rw [if_neg (by rw [hpl h128]; exact hp)]
      rw [hp'] at hP'
      by_cases hn : r = 7 ∨ r = 8 ∨ r = 12 ∨ r = 10 ∨ r = 13 ∨ r = 9 ∨ r = 11
      · exact escA_named W0.heap.size v n xs r W0 w hb hlen hr0 hr1 hn hP'
      · have hx : r < 32 ∨ r = 127 := by
          simp [Lib.isPrintLatin] at hp'; omega
        rw [escT_hex hn hx]
        exact escA_hex2 W0.heap.size v n xs r W0 w hb hlen hr0 hr1 hx hn hP'
  · rw [if_neg (by simp [pr, h128])]
    by_cases h : r < 65536
    · rw [escT_u4 (by omega) h]; exact escA_u4 W0.heap.size v n xs r W0 w hb hlen hr0 hr1 (by omega) h hv
    · rw [escT_u8 (by omega)]; exact escA_u8 W0.heap.size v n xs r W0 w hb hlen hr0 hr1 (by omega) hv

theorem escOk_G (T : Lib.PrintTabs) (G : List Nat) (W0 : World) (hT : PrintOk T G W0) : EscOk (pr T G false true) false true W0 := by
  intro v n xs r w hb hlen hv
  obtain ⟨hr0, hr1⟩ := valid_bd hv
  have hP : Calls Tryd.prog 85 #[.int .i32 r] w fun e w' => e = .returned (.bool (Lib.isPrintR T r)) ∧ ∃ q, w' = w.drewN q :=
    Tryd.strconv_IsPrint T r w (by omega) (by omega) (hT.2 w hb.2.1).1
  have hG : ∀ q, Calls Tryd.prog 86 #[.int .i32 r] (w.drewN q) fun e w' => e = .returned (.bool (inG G r)) ∧ ∃ q', w' = w.drewN q' := fun q =>
    (inGraphic_any G hT.1.1 hT.1.2 r hr0 (by omega) (w.drewN q) ((hT.2 w hb.2.1).2.drewN q)).mono fun e w' ⟨he, q', hw⟩ => ⟨he, q + q', by rw [hw, World.drewN_drewN]⟩
  have hpr : pr T G false true r = (Lib.isPrintR T r || inG G r) := by simp [pr]
  unfold escR
  by_cases hq : r = 34 ∨ r = 92
  · simp only [if_pos hq]
    exact escG_quoted W0.heap.size v n xs r W0 w hb hlen hr0 hr1 hq
  simp only [if_neg hq, hpr]
  by_cases hp : Lib.isPrintR T r = true
  · rw [if_pos (by rw [hp]; rfl)]
    rw [hp] at hP
    exact escG_printed W0.heap.size v n xs r W0 w hb hlen hr0 hr1 hq hP
  have hp' : Lib.isPrintR T r = false := by simpa using hp
  rw [hp'] at hP
  by_cases hg : inG G r = true
  · rw [if_pos (by rw [hg]; simp)]
    simp only [hg] at hG
    exact escG_printed_list W0.heap.size v n xs r W0 w hb hlen hr0 hr1 hq hP hG
  have hg' : inG G r = false := by simpa using hg
  simp only [hg'] at hG
  rw [if_neg (by rw [hp', hg']; simp)]
  by_cases hn : r = 7 ∨ r = 8 ∨ r = 12 ∨ r = 10 ∨ r = 13 ∨ r = 9 ∨ r = 11
  · exact escG_named W0.heap.size v n xs r W0 w hb hlen hr0 hr1 hn hP hG
  by_cases hx : r < 32 ∨ r = 127
  · rw [escT_hex hn hx]
    exact escG_hex2 W0.heap.size v n xs r W0 w hb hlen hr0 hr1 hx hn hP hG
  have h80 := print_low hp' hx
  by_cases h : r < 65536
  · rw [escT_u4 h80 h]; exact escG_u4 W0.heap.size v n xs r W0 w hb hlen hr0 hr1 h80 h hv hP hG
  · rw [escT_u8 (by omega)]; exact escG_u8 W0.heap.size v n xs r W0 w hb hlen hr0 hr1 (by omega) hv hP hG

/-- The bytes of a list of numbers. -/
def nb (l : List Int) : List UInt8 := l.map fun z => UInt8.ofNat z.toNat
theorem strOfNums_nb (l : List Int) : strOfNums l = bs (nb l) := rfl

/-- A buffer of at least one byte, made a string. -/
theorem buf_str {B : Nat} {v : Value} {l : List Int} {W0 w : World} (h : Lib.OwnBuf B 5 v (Lib.intCells l).length (Lib.intCells l) W0 w) (hl : 0 < l.length) :
    (convert 40 9 v).run Tryd.prog w = .ok (.string (bs (nb l))) w := by
  have h' : Lib.OwnBuf B 5 v (0 + l.length) ([] ++ Lib.intCells l) W0 w := by
    have e : (Lib.intCells l).length = 0 + l.length := by simp [Lib.intCells]
    rw [← e]; exact h
  obtain ⟨g, cap, rfl, hcells⟩ := buf_cells h' hl
  exact run_convert_bytes_arg w 40 5 Tryd.underlying40 Tryd.underlying5 g 0 _ cap l rfl hcells 9 Tryd.underlying9

set_option maxRecDepth 100000 in
theorem quoteWith_any (p : Int → Bool) (asc gr : Bool) (l : List UInt8) (w : World) (hlen : 10 * l.length + 12 ≤ 140737488355328) (hesc : EscOk p asc gr w) (hU : Utf8Ok w) :
    Calls Tryd.prog 38 #[.string (bs l), .int .u8 34, .bool asc, .bool gr] w fun e w' => e = .returned (.string (bs (nb (qZ p l)))) ∧ Below w.heap.size w w' := by
  obtain ⟨i0, hi, hz0, hz1, hz2⟩ := info_parts infoU8
  obtain ⟨c, hc⟩ : ∃ c, c = 3 * l.length / 2 := ⟨_, rfl⟩
  have hsz : (bs l).size = l.length := bs_size l
  have hcI : 3 * (l.length : Int) / 2 = (c : Int) := by omega
  have hc1 : l.length ≤ c := by omega
  have hc2 : c ≤ 140737488355328 := by omega
  have cQ : ∀ w1, Lib.OwnBuf w.heap.size 5 (.slice (some ⟨w.heap.size, 0, none⟩) 0 c) 0 [] w w1 → Calls Tryd.prog 48 #[.slice (some ⟨w.heap.size, 0, none⟩) 0 c, .string (bs l), .int .u8 34, .bool asc, .bool gr] w1 (BufPost w.heap.size w ([] ++ Lib.intCells (qZ p l))) :=
    fun w1 hb => appendQuoted_room p asc gr _ c [] l w w1 hb (by simp; omega) (by omega) (by simp; omega) hesc hU
  have CQ := Lib.hid cQ
  have Hc := Lib.hid hc
  clear hc cQ hesc hU
  go_enter Tryd.func38, Tryd.ntmps38
  go_wp2_with (first
    | (at_make; refine wpList_make_own _ rfl _ _ 40 rfl w.heap.size 5 i0 (.int .u8 0) 1 Tryd.underlying40 hi hz0 hz1 _ _ _ c rfl rfl (by first | rfl | assumption) (by rw [hz2]; omega) (by unfold maxLen; omega) (Nat.le_refl _) ?_; intro w1 hown hg)
    | (go_at_call 48; refine (CQ.out _ ⟨World.ownsRowF_of hown, (Below.refl _ _).grown hg (Nat.le_refl _) (by intro k hk; cases hk), hg.size⟩).mono ?_; rintro e w2 ⟨v2, rfl, hb2⟩; refine Hid.out ?_))
  refine Lib.hid ?_
  rw [List.nil_append] at hb2
  have hcv := buf_str hb2 (by simp [qZ])
  have hbel := hb2.2.1
  clear hb2
  go_wp2
  go_ret
  exact ⟨rfl, hbel⟩
theorem sQuote_any (T : Lib.PrintTabs) (G : List Nat) (l : List UInt8) (w : World) (hlen : 10 * l.length + 12 ≤ 140737488355328) (hT : PrintOk T G w) (hU : Utf8Ok w) :
    Calls Tryd.prog 23 #[.string (bs l)] w fun e w' => e = .returned (.string (bs (nb (qZ (pr T G false false) l)))) ∧ Below w.heap.size w w' := by
  have c := quoteWith_any (pr T G false false) false false l w hlen (escOk_P T G w hT) hU
  have C := Lib.hid c
  clear c hT hU
  go_enter Tryd.func23, Tryd.ntmps23
  go_wp2_with (go_at_call 38; refine C.out.mono ?_; rintro e w1 ⟨rfl, hb⟩)
  go_ret
  exact ⟨rfl, hb⟩
theorem Quote_any (T : Lib.PrintTabs) (G : List Nat) (l : List UInt8) (w : World) (hlen : 10 * l.length + 12 ≤ 140737488355328) (hT : PrintOk T G w) (hU : Utf8Ok w) :
    Calls Tryd.prog 11 #[.string (bs l)] w fun e w' => e = .returned (.string (bs (nb (qZ (pr T G false false) l)))) ∧ Below w.heap.size w w' := by
  have c := sQuote_any T G l w hlen hT hU
  have C := Lib.hid c
  clear c hT hU
  go_enter Tryd.func11, Tryd.ntmps11
  go_wp2_with (go_at_call 23; refine C.out.mono ?_; rintro e w1 ⟨rfl, hb⟩)
  go_ret
  exact ⟨rfl, hb⟩

theorem sQuoteToASCII_any (T : Lib.PrintTabs) (G : List Nat) (l : List UInt8) (w : World) (hlen : 10 * l.length + 12 ≤ 140737488355328) (hU : Utf8Ok w) :
    Calls Tryd.prog 24 #[.string (bs l)] w fun e w' => e = .returned (.string (bs (nb (qZ (pr T G true false) l)))) ∧ Below w.heap.size w w' := by
  have c := quoteWith_any (pr T G true false) true false l w hlen (escOk_A T G w) hU
  have C := Lib.hid c
  clear c hU
  go_enter Tryd.func24, Tryd.ntmps24
  go_wp2_with (go_at_call 38; refine C.out.mono ?_; rintro e w1 ⟨rfl, hb⟩)
  go_ret
  exact ⟨rfl, hb⟩
theorem QuoteToASCII_any (T : Lib.PrintTabs) (G : List Nat) (l : List UInt8) (w : World) (hlen : 10 * l.length + 12 ≤ 140737488355328) (hU : Utf8Ok w) :
    Calls Tryd.prog 12 #[.string (bs l)] w fun e w' => e = .returned (.string (bs (nb (qZ (pr T G true false) l)))) ∧ Below w.heap.size w w' := by
  have c := sQuoteToASCII_any T G l w hlen hU
  have C := Lib.hid c
  clear c hU
  go_enter Tryd.func12, Tryd.ntmps12
  go_wp2_with (go_at_call 24; refine C.out.mono ?_; rintro e w1 ⟨rfl, hb⟩)
  go_ret
  exact ⟨rfl, hb⟩

theorem sQuoteToGraphic_any (T : Lib.PrintTabs) (G : List Nat) (l : List UInt8) (w : World) (hlen : 10 * l.length + 12 ≤ 140737488355328) (hT : PrintOk T G w) (hU : Utf8Ok w) :
    Calls Tryd.prog 25 #[.string (bs l)] w fun e w' => e = .returned (.string (bs (nb (qZ (pr T G false true) l)))) ∧ Below w.heap.size w w' := by
  have c := quoteWith_any (pr T G false true) false true l w hlen (escOk_G T G w hT) hU
  have C := Lib.hid c
  clear c hT hU
  go_enter Tryd.func25, Tryd.ntmps25
  go_wp2_with (go_at_call 38; refine C.out.mono ?_; rintro e w1 ⟨rfl, hb⟩)
  go_ret
  exact ⟨rfl, hb⟩
theorem QuoteToGraphic_any (T : Lib.PrintTabs) (G : List Nat) (l : List UInt8) (w : World) (hlen : 10 * l.length + 12 ≤ 140737488355328) (hT : PrintOk T G w) (hU : Utf8Ok w) :
    Calls Tryd.prog 13 #[.string (bs l)] w fun e w' => e = .returned (.string (bs (nb (qZ (pr T G false true) l)))) ∧ Below w.heap.size w w' := by
  have c := sQuoteToGraphic_any T G l w hlen hT hU
  have C := Lib.hid c
  clear c hT hU
  go_enter Tryd.func13, Tryd.ntmps13
  go_wp2_with (go_at_call 25; refine C.out.mono ?_; rintro e w1 ⟨rfl, hb⟩)
  go_ret
  exact ⟨rfl, hb⟩
end Go.Proofs.YthjkpkkkjndjlaaDoor
