/- FnNumbersBack returns true for all lists of bounded bulk: numbers that are written with a blank behind each are read back. Conditions: none beyond the card's own. -/
import Derived.Test.YtenepfefpoiddaaDoorRead
import Derived.Test.YtenepfefpoiddaaDoorApp
import Derived.Lib.ParseIntBTie
namespace Go.Proofs.YtenepfefpoiddaaDoor
open Go.RowKit
namespace fnNumbersBack

theorem mag_text (u : Nat) (hu : u < 18446744073709551616) : Lib.parseMag (text 10 u) = .ok u := by
  have hne : text 10 u ≠ [] := fun h => digs_ne 10 u (List.map_eq_nil_iff.1 h)
  rw [Lib.parseMag, if_neg hne, text, parse10 (digs 10 u) 0 (by omega) (digs_bd (by omega) u), Nat.zero_mul, Nat.zero_add, val_digs (by omega), if_pos hu]
theorem readOut_itext (n : Int) (h0 : -9223372036854775808 ≤ n) (h1 : n ≤ 9223372036854775807) : readOut (itext 10 n) = (n, 0) := by
  have e : Lib.parseIntB 64 (itext 10 n) = .ok n := by
    rw [Lib.parseIntB_64]
    by_cases hn : n < 0
    · rw [itext_neg hn, Lib.atoiAll_minus, mag_text _ (by omega)]
      simp only [Lib.signed]
      rw [if_neg (by omega)]
      congr 1
      omega
    · rw [itext_pos (by omega)]
      obtain ⟨d, r, hd⟩ : ∃ d r, digs 10 n.natAbs = d :: r := by
        cases h : digs 10 n.natAbs with
        | nil => exact absurd h (digs_ne _ _)
        | cons d r => exact ⟨d, r, rfl⟩
      have hm := mag_text n.natAbs (by omega)
      have hd2 := dch_ge d (by have := digs_bd (b := 10) (by omega) n.natAbs d (by rw [hd]; simp); omega)
      have ht : text 10 n.natAbs = dch d :: r.map dch := by rw [text, hd]; rfl
      rw [ht] at hm ⊢
      rw [Lib.atoiAll_plain _ _ (by omega) (by omega), hm]
      simp only [Lib.signless]
      rw [if_neg (by omega)]
      congr 1
      omega
  rw [readOut, e]

/-- Cutting at blanks, byte by byte. -/
def step (s : List (List UInt8) × List UInt8) (c : UInt8) : List (List UInt8) × List UInt8 := if c.toNat = 32 then (s.1 ++ [s.2], []) else (s.1, s.2 ++ [c])
def sp (l : List UInt8) : List (List UInt8) × List UInt8 := l.foldl step ([], [])
theorem sp_snoc (l : List UInt8) (c : UInt8) : sp (l ++ [c]) = step (sp l) c := by simp [sp]
theorem fold_word : ∀ (I : List UInt8) (ws : List (List UInt8)) (wd R : List UInt8), (∀ c ∈ I, c.toNat ≠ 32) → (I ++ 32 :: R).foldl step (ws, wd) = R.foldl step (ws ++ [wd ++ I], [])
  | [], ws, wd, R, _ => by simp [step]
  | c :: I, ws, wd, R, h => by
    have hc : step (ws, wd) c = (ws, wd ++ [c]) := by simp [step, h c (by simp)]
    rw [List.cons_append, List.foldl_cons, hc, fold_word I ws (wd ++ [c]) R (fun x hx => h x (by simp [hx]))]
    simp
theorem itext_blank (x : Int) : ∀ c ∈ itext 10 x, c.toNat ≠ 32 := by
  have ht : ∀ c ∈ text 10 x.natAbs, c.toNat ≠ 32 := by
    intro c hc
    obtain ⟨d, hd, rfl⟩ := List.mem_map.1 hc
    have := dch_ge d (by have := digs_bd (b := 10) (by omega) x.natAbs d hd; omega)
    omega
  intro c hc
  unfold itext at hc
  split at hc
  · rcases List.mem_cons.1 hc with rfl | h
    · decide
    · exact ht c h
  · exact ht c hc
theorem fold_blanks : ∀ (xs : List Int) (ws : List (List UInt8)), (blanks xs).foldl step (ws, []) = (ws ++ xs.map (itext 10), [])
  | [], ws => by simp [blanks]
  | x :: r, ws => by
    rw [blanks_cons, fold_word _ _ _ _ (itext_blank x), fold_blanks r]
    simp
theorem sp_blanks (xs : List Int) : sp (blanks xs) = (xs.map (itext 10), []) := by rw [sp, fold_blanks]; simp
theorem sp_len (l : List UInt8) : (sp l).1.length ≤ l.length ∧ (sp l).2.length ≤ l.length := by
  refine snoc_ind (P := fun l => (sp l).1.length ≤ l.length ∧ (sp l).2.length ≤ l.length) (by simp [sp]) (fun l c h => ?_) l
  rw [sp_snoc, step]
  split
  · simp; omega
  · simp; omega

theorem own_strs {w : World} {B : Nat} {a : Option Addr} {n cap : Nat} {l : List ByteArray} {e : TypeId} (h : w.ownsRow B e 1 (.slice a n cap) n (sCells l)) : StrsIn w a l := by
  intro i hi
  have hn : n = l.length := by have := h.1; rw [sCells_len] at this; omega
  obtain ⟨g, c, he⟩ := own_form h (by omega)
  simp at he
  obtain ⟨rfl, rfl⟩ := he
  refine ⟨g, 0, rfl, ?_⟩
  rw [Nat.zero_add, h.cellAt i (by omega), sCells_get l i hi]

theorem own_cap {w : World} {B : Nat} {a : Option Addr} {n cap k : Nat} {l : List Value} {e : TypeId} (h : w.ownsRow B e k (.slice a n cap) n l) : n ≤ cap := by
  rcases h.2 with ⟨h1, h2⟩ | ⟨g, c, cur, h1, _, _, h2, _⟩
  · omega
  · simp at h1; omega
theorem own_byte {w : World} {B : Nat} {a : Option Addr} {n cap : Nat} {l : List UInt8} {e : TypeId} (h : w.ownsRow B e 1 (.slice a n cap) n (bCells l)) (j : Nat) (hj : j < l.length) : ∃ g, a = some ⟨g, 0, none⟩ ∧ w.cell? ⟨g, j, none⟩ = some (.int .u8 ((l[j]'hj).toNat : Int)) := by
  have hn : n = l.length := by have := h.1; rw [bCells_len] at this; omega
  obtain ⟨g, c, he⟩ := own_form h (by omega)
  simp at he
  obtain ⟨rfl, rfl⟩ := he
  exact ⟨g, rfl, by rw [h.cellAt j (by omega), bCells_get l j hj]⟩
theorem own_int {w : World} {B : Nat} {a : Option Addr} {n cap : Nat} {l : List Int} {e : TypeId} (h : w.ownsRow B e 1 (.slice a n cap) n (iCells l)) (j : Nat) (hj : j < l.length) : ∃ g, a = some ⟨g, 0, none⟩ ∧ w.cell? ⟨g, j, none⟩ = some (.int .i64 (l[j]'hj)) := by
  have hn : n = l.length := by have := h.1; rw [iCells_len] at this; omega
  obtain ⟨g, c, he⟩ := own_form h (by omega)
  simp at he
  obtain ⟨rfl, rfl⟩ := he
  exact ⟨g, rfl, by rw [h.cellAt j (by omega), iCells_get l j hj]⟩
theorem read_first (xs : List Int) (hwf : ∀ x ∈ xs, (Lit.int .i64 x).wf = true) : ((xs.map (itext 10)).map bs).map (fun s => (readOut s.data.toList).1) = xs := by
  induction xs with
  | nil => rfl
  | cons x r ih =>
    have h1 := wf_i64 (hwf x (by simp))
    rw [List.map_cons, List.map_cons, List.map_cons, ih (fun y hy => hwf y (by simp [hy]))]
    rw [show (bs (itext 10 x)).data.toList = itext 10 x by simp [bs], readOut_itext x h1.1 h1.2]
theorem read_second (xs : List Int) (hwf : ∀ x ∈ xs, (Lit.int .i64 x).wf = true) : ((xs.map (itext 10)).map bs).map (fun s => (readOut s.data.toList).2) = xs.map fun _ => 0 := by
  induction xs with
  | nil => rfl
  | cons x r ih =>
    have h1 := wf_i64 (hwf x (by simp))
    rw [List.map_cons, List.map_cons, List.map_cons, ih (fun y hy => hwf y (by simp [hy]))]
    rw [show (bs (itext 10 x)).data.toList = itext 10 x by simp [bs], readOut_itext x h1.1 h1.2]
    rfl

theorem conv_one (w : World) (c : UInt8) : (convert 23 9 (.slice (some ⟨w.heap.size, 0, none⟩) 1 1)).run Tryd.prog (w.alloc (.cells #[.int .u8 (c.toNat : Int)] 5)) = .ok (.string (bs [c])) (w.alloc (.cells #[.int .u8 (c.toNat : Int)] 5)) :=
  run_convert_bytes_back (P := Tryd.prog) _ 23 9 5 ⟨w.heap.size, 0, none⟩ 1 [c] Tryd.underlying23 Tryd.underlying5 Tryd.underlying9 (fun j hj => by
    obtain rfl : j = 0 := by simpa using hj
    rw [Lib.add_plain, new_one]
    rfl)

set_option maxHeartbeats 1000000 in
set_option maxRecDepth 100000 in
theorem walkOf (w : World) (a0 : Option Addr) (n cap : Nat) (xs : List Int) (hn : xs.length = n) (lc : n ≤ cap) (hin : IntsIn w a0 xs) (hwf : ∀ x ∈ xs, (Lit.int .i64 x).wf = true) (bd : n ≤ 1048576) (hE : EnvP w) :
    Calls Tryd.prog 12 #[.slice a0 n cap] w fun e w' => e = .returned (.bool true) ∧ Below w.heap.size w w' := by
  obtain ⟨ar, ay, hErr⟩ := hE.errs
  have HA := Lib.hid (AppendNumbers_any w a0 n cap xs hn lc hin hwf bd w.heap.size hE.nums)
  have hbl := blanks_len xs hwf
  rw [hn] at hbl
  have hsp := sp_blanks xs
  have HN := Lib.hid hn
  have HIN := Lib.hid hin
  have HWF := Lib.hid hwf
  clear hn hin hwf
  obtain ⟨L, hL⟩ : ∃ L, L = blanks xs := ⟨_, rfl⟩
  rw [← hL] at HA hbl hsp
  have HSP := Lib.hid hsp
  clear hL hsp
  obtain ⟨N, hN⟩ : ∃ N, N = L.length := ⟨_, rfl⟩
  rw [← hN] at HA hbl
  have HL := Lib.hid hN
  clear hN
  go_enter Tryd.func12, Tryd.ntmps12
  go_wp2_with (go_at_call 15; refine HA.out.mono ?_; rintro e w1 ⟨v1, rfl, o1, hb1⟩; refine Hid.out ?_)
  refine Lib.hid ?_
  obtain ⟨b1, c1, rfl⟩ := own_shape o1
  have O1 := Lib.hid o1
  clear o1 HA
  go_wp2
  go_loopw [3, 4, 6, 14] (fun vws vwd _ vj wr => ∃ (p : Nat) (T : ByteArray) (ws : List ByteArray) (m : Nat), p ≤ N ∧ vj = .int .i64 p ∧ vwd = .string T ∧ wr.ownsRow w1.heap.size 9 1 vws m (sCells ws) ∧ Hid (m = ws.length ∧ ws = (sp (L.take p)).1.map bs ∧ T = bs (sp (L.take p)).2) ∧ Below w1.heap.size w1 wr) (fun _ _ _ vj _ => N - (intOf vj).toNat)
  case atStart => exact ⟨0, ⟨#[]⟩, [], 0, by omega, rfl, rfl, World.ownsRow_nil _ _ _ _, ⟨rfl, rfl, rfl⟩, Below.refl _ _⟩
  case round =>
    obtain ⟨p, T, ws, m, hp, rfl, rfl, o2, HS, hbr⟩ := hrel
    have hsl := sp_len (L.take p)
    have htl : (L.take p).length ≤ p := by simp; omega
    have hm : m ≤ p := by rw [HS.out.1, HS.out.2.1, List.length_map]; omega
    have hT : T.size ≤ p := by rw [HS.out.2.2, bs_size]; omega
    clear hsl htl
    by_cases hlt : p < N
    · have hpx : p < L.length := by rw [← HL.out]; exact hlt
      obtain ⟨g1, rfl, hcell⟩ := own_byte (own_below O1.out hbr) p hpx
      have hnext : sp (L.take (p + 1)) = step (sp (L.take p)) (L[p]'hpx) := by rw [← List.take_append_getElem hpx, sp_snoc]
      have hcv := conv_one wr (L[p]'hpx)
      generalize L[p] = c at *
      have hcl : c.toNat < 256 := c.toNat_lt
      have HX := Lib.hid hnext
      clear hnext hpx
      by_cases h32 : c.toNat = 32
      · have g0 : ((c.toNat : Int) == 32) = true := by simp; omega
        have HC := Lib.hid h32
        clear h32 hcv
        go_wp2_with (at_builtin; refine append_one rfl _ _ Tryd.underlying42 infoStr rfl rfl w1.heap.size w1 _ (sCells ws) m rfl (o2.alloc _) (.string T) rfl wr.heap.size rfl (new_one _ _ _) (by omega) (by omega) (hbr.alloc hbr.size _) (Nat.le_refl _) ?_; intro v2 w2 r2 hb2 _; refine Hid.out ?_)
        refine Lib.hid ?_
        go_wp2
        refine ⟨⟨p + 1, ⟨#[]⟩, ws ++ [T], m + 1, by omega, by go_num, rfl, ?_, ?_, hb2⟩, ?_⟩
        · simpa [sCells] using r2
        · show _ ∧ _ ∧ _
          rw [HX.out, step, if_pos HC.out]
          refine ⟨by rw [List.length_append, HS.out.1]; rfl, ?_, rfl⟩
          rw [List.map_append, ← HS.out.2.1, HS.out.2.2]
          rfl
        · simp [intOf]; omega
      · have g0 : ((c.toNat : Int) == 32) = false := by simp; omega
        have HC := Lib.hid h32
        clear h32
        have hs1 : (bs [c]).size = 1 := rfl
        generalize hD : bs [c] = D at *
        have HD := Lib.hid hD
        clear hD
        go_wp2
        refine ⟨⟨p + 1, _, ws, m, by omega, by go_num, rfl, o2.alloc _, ?_, hbr.alloc hbr.size _⟩, ?_⟩
        · show _ ∧ _ ∧ _
          rw [HX.out, step, if_neg HC.out]
          refine ⟨HS.out.1, HS.out.2.1, ?_⟩
          rw [HS.out.2.2, ← HD.out, bs_append]
        · simp [intOf]; omega
    · obtain rfl : p = N := by omega
      have htk : L.take p = L := List.take_of_length_le (by rw [← HL.out]; omega)
      have h3 := HS.out
      rw [htk, HSP.out] at h3
      obtain ⟨h4, h5, h6⟩ := h3
      obtain rfl : T = ⟨#[]⟩ := h6
      have hws := read_first xs HWF.out
      have hws2 := read_second xs HWF.out
      rw [← h5] at hws hws2
      have hmn : m = n := by rw [h4, h5, List.length_map, List.length_map, HN.out]
      obtain ⟨bw, cw, rfl⟩ := own_shape o2
      have hall : ∀ s ∈ ws, s.size ≤ 281474976710656 := by
        intro s hs
        rw [h5] at hs
        obtain ⟨l, hl, rfl⟩ := List.mem_map.1 hs
        obtain ⟨x, hx, rfl⟩ := List.mem_map.1 hl
        have h6 := wf_i64 (HWF.out x hx)
        have := itext_bd (b := 10) (by omega) h6.1 h6.2
        rw [bs_size]; omega
      have hB2 := hb1.trans (hbr.mono hb1.size)
      have HR := Lib.hid (ReadNumbers_any wr bw m cw ws h4.symm (own_cap o2) (own_strs o2) hall (by omega) ar ay (hErr.on hB2))
      rw [hws, hws2, hmn] at HR
      subst hmn
      clear hws hws2 h4 h5 hall HS htk o2 hlt hm hT hp
      go_wp2_with (go_at_call 29; refine HR.out.mono ?_; rintro e w2 ⟨u1, u2, rfl, q1, q2, hb2⟩; refine Hid.out ?_)
      refine Lib.hid ?_
      obtain ⟨d1, e1, rfl⟩ := own_shape q1
      obtain ⟨d2, e2, rfl⟩ := own_shape q2
      have hB3 := hB2.trans (hb2.mono hB2.size)
      have Q1 := Lib.hid q1
      have Q2 := Lib.hid q2
      clear q1 q2 HR
      go_wp2
      go_loopw [9, 10, 53] (fun _ _ vj wr => ∃ j : Nat, j ≤ m ∧ vj = .int .i64 j ∧ Below w2.heap.size w2 wr) (fun _ _ vj _ => m - (intOf vj).toNat)
      case atStart => exact ⟨0, by omega, rfl, Below.refl _ _⟩
      case round =>
        obtain ⟨j, hj, rfl, hbs⟩ := hrel
        have hB4 := hB3.trans (hbs.mono hB3.size)
        by_cases hlt : j < m
        · have hjx : j < xs.length := by rw [HN.out]; exact hlt
          obtain ⟨blk, off, rfl, hcell⟩ := (HIN.out.on hB4) j hjx
          obtain ⟨g1, rfl, k1⟩ := own_int (own_below Q1.out hbs) j hjx
          obtain ⟨g2, rfl, k2⟩ := own_int (own_below Q2.out hbs) j (by simpa using hjx)
          simp only [List.getElem_map] at k2
          generalize xs[j] = x at *
          go_wp2
          exact ⟨⟨j + 1, by omega, by go_num, hbs⟩, by simp [intOf]; omega⟩
        · go_wp2
          go_ret
          exact ⟨rfl, hB4⟩

theorem walk (a0 : Option Addr) (len cap : Nat) (xs : List Int) (ex : xs.length = len) (lc : len ≤ cap) (_cm : cap ≤ maxLen) (w : World) (hin : IntsIn w a0 xs) (hwf : ∀ x ∈ xs, (Lit.int .i64 x).wf = true) (bd : xs.length ≤ 1048576) (hE : EnvP w) :
    Calls Tryd.prog 12 #[.slice a0 len cap] w fun e w' => e = .returned (.bool true) ∧ Below w.heap.size w w' :=
  walkOf w a0 len cap xs ex lc hin hwf (by omega) hE
end fnNumbersBack
namespace fnNumbersBack
open Go.ChangeShapes Go.WideShapes Go.ChangeAt Go.RowKit
set_option maxRecDepth 100000 in
theorem contract (H : Type) (enc : TypeId × Value → H) (W : World) (base : Nat) (args : Array Value) (ds gs : List (DataW H)) (before : List MemPlace)
    (hval : ∀ (j : Nat) t v, Tryd.f12.params[j]? = some t → args[j]? = some v → Value.okWide Tryd.prog W .any base t v)
    (hW : DataW.Whole enc Tryd.prog Tryd.f12.params.toList Rows.fnNumbersBackSpec.vars false W args.toList ds gs before) (hL : laidMet Tryd.prog Rows.fnNumbersBackUptoRow.laid W) (hk : Rows.uptoSmall H (ds ++ gs) = true) :
    Calls Tryd.prog 12 args W fun e W' => ∃ v, e = .returned v ∧ Rows.fnNumbersBackSpec.post enc Tryd.prog Tryd.f12 false true false false W args v W' := by
  have hW' := hW
  obtain ⟨p, q, hA0, hV, rfl, hfz, hnd⟩ := hW
  have hA : DataW.TrodAll enc Tryd.prog W 0 (fun _ => true) true Tryd.f12.params.toList args.toList ds p := hA0
  rw [Tryd.params12] at hA hval
  obtain ⟨v0, vs0, d0, ds0, p0, q0, hargs, rfl, rfl, h0, r0⟩ := trodAll_cons hA
  obtain ⟨rfl, rfl, rfl⟩ := trodAll_nil r0
  obtain rfl : args = #[v0] := by cases args; simp_all
  obtain ⟨rfl, rfl⟩ := trodVars_none hV
  obtain ⟨a0, len0, cap0, rfl⟩ := okWide_slice Tryd.underlying22 (hval 0 22 v0 rfl rfl)
  obtain ⟨xs0, ex0, lc0, cm0, in0, wf0, bk0⟩ := opened_ints Tryd.underlying22 Tryd.underlying2 (by kernel_rfl) h0
  have bd0 : xs0.length ≤ 1048576 := by have hs := small hk; simp only [Rows.uptoBulkAll, List.append_nil] at hs; omega
  clear hA0
  simp only [List.append_nil] at hW'
  have hlt := fun x hx => hW'.lt x hx
  refine (walk a0 len0 cap0 xs0 ex0 lc0 cm0 W in0 wf0 bd0 (env_parse hL)).mono fun e W' ⟨he, hg⟩ => ?_
  subst he
  have hback := trodAll_cons_mk (Below.trod laidOut (by kernel_rfl) (of_decide_eq_true (by kernel_rfl)) h0 hg (fun x hx => hlt x (by simp [hx]))) (trodAll_mk0)
  exact ⟨_, rfl, _, _, _, [], _, [], hW', trodAll_cons_mk (shut_bool Tryd.underlying4 _) trodAll_mk0, hback, rfl, hg.frame _, fun h => by cases h⟩

theorem plainList : laidMetH Tryd.prog Rows.fnNumbersBackUptoRow.laid = laidMet Tryd.prog Rows.fnNumbersBackUptoRow.laid := funext fun _ => MakeChecks.laidMetH_plain _ _ _ (by kernel_rfl)
theorem laid_met (os : Os) : laidMetH Tryd.prog Rows.fnNumbersBackUptoRow.laid ((World.laidAll Tryd.prog os Rows.fnNumbersBackUptoRow.laid).forCall (fun _ _ => 0) ⟨#[], #[.slice none 0 0], []⟩).memory := by
  rw [plainList]; exact laidMet_laidAll _ (by kernel_rfl) (by kernel_rfl)
theorem reads (os : Os) {H : Type} (enc : TypeId × Value → H) : ∃ places, DataW.whole enc Tryd.prog ((World.laidAll Tryd.prog os Rows.fnNumbersBackUptoRow.laid).forCall (fun _ _ => 0) ⟨#[], #[.slice none 0 0], []⟩).memory Tryd.f12.params.toList Rows.fnNumbersBackSpec.vars false #[(.slice none 0 0 : Value)].toList 8 = some ([.nil], [], places) :=
  ⟨[], by kernel_rfl⟩

set_option maxRecDepth 100000 in
theorem lifted (os : Os) (started : os.Started) (H : Type) (enc : TypeId × Value → H) (F : Stop.Interp) :
    ReturnsInHanded {} Tryd.checked os 12 .any ((Rows.OpenSpec.upto Rows.fnNumbersBackSpec).preRow enc Tryd.prog Tryd.f12 Rows.fnNumbersBackUptoRow.domain false Rows.fnNumbersBackUptoRow.laid) (((Rows.OpenSpec.upto Rows.fnNumbersBackSpec).at F).post enc Tryd.prog Tryd.f12 false true false false) := by
  obtain ⟨places, hx⟩ := reads os enc
  refine returnsInHanded_of_row (C := Tryd.checked) (s := Rows.OpenSpec.upto Rows.fnNumbersBackSpec) ownKnobs started (by kernel_rfl) Tryd.func12
    (witness_laid #[.slice none 0 0] (World.shaped_of_ZipB (by kernel_rfl) (by kernel_rfl)) (by kernel_rfl)
      (OpenSpec.preRow_of_cond 8 hx (by kernel_rfl) (fun k hk => by cases hk; kernel_rfl) (by kernel_rfl) (laid_met os))) ?_
  intro W base args ds gs before hval hW _ hcond _ hL _ _
  have hL2 : laidMetH Tryd.prog Rows.fnNumbersBackUptoRow.laid W := hL
  rw [plainList] at hL2
  exact contract H enc W base args ds gs before hval hW hL2 (hcond _ rfl)

theorem said : Rows.FnNumbersBackUptoSaid :=
  OpenClaim.holds_of_cond 12 Tryd.f12 rfl rfl rfl rfl rfl rfl rfl ⟨rfl, rfl, rfl, rfl, rfl⟩ rfl rfl rfl rfl rfl (by kernel_rfl) Tryd.func12 (by kernel_rfl)
    (of_decide_eq_true (by kernel_rfl)) (by unfold Func.isWrapper; first | (rw [if_pos (by decide +kernel)]; kernel_rfl) | (rw [if_neg (by decide +kernel)]; exact ⟨rfl, rfl⟩))
    (fun os started H enc _ F => by rw [OpenClaim.pre_eq_preRow]; exact lifted os started H enc F)

theorem plain (f : FuncId) (fn : Func) (hf : Tryd.pinned.checked.prog.funcNamed "loop.example/lib-g01429/laws.FnNumbersBack" = some f) (hfn : Tryd.pinned.checked.prog.funcs[f]? = some fn) :
    true = Tryd.pinned.checked.prog.looks [] ∧ ∀ (j : Nat) t, fn.params[j]? = some t → Tryd.pinned.checked.prog.wantsStandIn t = false := by
  obtain rfl : f = 12 := Option.some.inj ((show Tryd.prog.funcNamed "loop.example/lib-g01429/laws.FnNumbersBack" = some 12 by kernel_rfl).symm.trans hf) |>.symm
  obtain rfl : fn = Tryd.f12 := (Option.some.inj (Tryd.func12.symm.trans hfn)).symm
  refine ⟨by kernel_rfl, fun j t ht => ?_⟩
  rw [Tryd.params12] at ht
  obtain rfl : t = 22 := by simpa using Array.mem_of_getElem? ht
  exact (show Tryd.prog.wantsStandIn 22 = false by kernel_rfl)

/-- THE CARD. -/
theorem card : Rows.FnNumbersBackUptoCardSaid :=
  Claim7.holds_tied_plain_at .later [] _ _ _ _ said (fun _ h => by cases h) (by kernel_rfl) (fun _ h => by cases h) fnNumbersBackUpto_row_tie rfl ⟨rfl, rfl⟩ (by kernel_rfl) rfl plain (by kernel_rfl)
end fnNumbersBack
end Go.Proofs.YtenepfefpoiddaaDoor
