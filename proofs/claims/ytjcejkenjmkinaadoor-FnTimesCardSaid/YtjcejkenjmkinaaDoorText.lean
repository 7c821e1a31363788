/- The reference's Text: the text of a number in a base. -/
import Derived.Test.YtjcejkenjmkinaaDoorSpec
import Derived.OwnWalk
namespace Go.Proofs.YtjcejkenjmkinaaDoor
open Go.RowKit

theorem infoU8 : (Tryd.prog.info? 5).map (fun i => (i.zero, i.size, i.bytes)) = some (some (.int .u8 0), 1, 1) := by kernel_rfl
/-- Bytes as cells. -/
def cellsOf (l : List UInt8) : List Value := l.map fun c => .int .u8 (c.toNat : Int)

theorem cellsOf_len (l : List UInt8) : (cellsOf l).length = l.length := by simp [cellsOf]
theorem cellsOf_get (l : List UInt8) (j : Nat) (h : j < l.length) : (cellsOf l)[j]? = some (.int .u8 (l[j].toNat : Int)) := by simp [cellsOf, h]
theorem cellsOf_append (l r : List UInt8) : cellsOf (l ++ r) = cellsOf l ++ cellsOf r := by simp [cellsOf]
theorem cellsOf_set (l : List UInt8) (j : Nat) (c : UInt8) : (cellsOf l).set j (.int .u8 (c.toNat : Int)) = cellsOf (l.set j c) := by simp [cellsOf, List.map_set]
theorem cellsOf_one (l : List UInt8) : ∀ x ∈ cellsOf l, x.oneCell' = true := by
  intro x hx
  obtain ⟨c, _, rfl⟩ := List.mem_map.1 hx
  rfl

/-- The list l with its first i and its last i places exchanged. -/
def RS (l : List UInt8) (i : Nat) (ys : List UInt8) : Prop := ys.length = l.length ∧ ∀ j, j < l.length → ys[j]? = if j < i ∨ l.length - 1 - j < i then l[l.length - 1 - j]? else l[j]?
theorem RS.start (l : List UInt8) : RS l 0 l := ⟨rfl, fun j _ => by simp⟩
theorem RS.done {l : List UInt8} {i : Nat} {ys : List UInt8} (h : RS l i ys) (hi : l.length ≤ 2 * i + 1) : ys = l.reverse := by
  apply List.ext_getElem?
  intro j
  by_cases hj : j < l.length
  · rw [h.2 j hj, List.getElem?_reverse hj]
    split
    · rfl
    · rename_i hn
      rw [show l.length - 1 - j = j by omega]
  · rw [List.getElem?_eq_none (by rw [h.1]; omega), List.getElem?_eq_none (by simp; omega)]
theorem RS.step {l : List UInt8} {i : Nat} {ys : List UInt8} (h : RS l i ys) (hi : 2 * i + 2 ≤ l.length) (h1 : i < ys.length) (h2 : l.length - 1 - i < ys.length) :
    RS l (i + 1) ((ys.set i ys[l.length - 1 - i]).set (l.length - 1 - i) ys[i]) := by
  obtain ⟨hl, hg⟩ := h
  refine ⟨by simp [hl], fun j hj => ?_⟩
  have a1 := hg i (by omega)
  have a2 := hg (l.length - 1 - i) (by omega)
  have a3 := hg j hj
  rw [List.getElem?_eq_getElem h1, if_neg (by omega)] at a1
  rw [List.getElem?_eq_getElem h2, if_neg (by omega)] at a2
  rw [List.getElem?_set, List.getElem?_set]
  by_cases c1 : j = l.length - 1 - i
  · subst c1
    rw [if_pos rfl, if_pos (by simp; omega), if_pos (by omega), a1, show l.length - 1 - (l.length - 1 - i) = i by omega]
  · rw [if_neg (fun e => c1 e.symm)]
    by_cases c2 : j = i
    · subst c2
      rw [if_pos rfl, if_pos (by omega), if_pos (by omega), a2]
    · rw [if_neg (fun e => c2 e.symm), a3]
      by_cases c3 : j < i ∨ l.length - 1 - j < i
      · rw [if_pos c3, if_pos (by omega)]
      · rw [if_neg c3, if_neg (by omega)]

theorem rem_facts (v b : Nat) (hb : 2 ≤ b) (hv : v < 18446744073709551616) : ∃ q r : Nat, q = v / b ∧ r = v % b ∧ r < b ∧ q ≤ v ∧
    IntKind.u64.wrap ((v : Int) / (b : Int)) = (q : Int) ∧ (v : Int) % (b : Int) = (r : Int) := by
  obtain ⟨q, p, r, h1, h2, h3, h4, _, h5, _, _⟩ := quo_facts v b hb hv
  exact ⟨q, r, h1, h2, h3, h4, h5, by rw [h2, Int.natCast_emod]⟩

theorem one_new (w : World) (c : UInt8) : ∀ j (_ : j < [c].length), (w.alloc (.cells #[.int .u8 (c.toNat : Int)] 5)).cell? ((⟨w.heap.size, 0, none⟩ : Addr).add j) = some (.int .u8 (([c][j]).toNat : Int)) := by
  intro j hj
  obtain rfl : j = 0 := by simpa using hj
  rw [Lib.add_plain, World.cell?_alloc_new]
  rfl
theorem own_slice {w : World} {B : Nat} {e : TypeId} {size : Nat} {v : Value} {n : Nat} {xs : List Value} (h : w.ownsRow B e size v n xs) (hn : 0 < n) : ∃ g cap, v = .slice (some ⟨g, 0, none⟩) n cap := by
  rcases h.2 with ⟨_, h0⟩ | ⟨g, cap, cur, hv, _⟩
  · omega
  · exact ⟨g, cap, hv⟩

/-- append to a row of bytes of the call's own: the bytes r that lie at ad. -/
theorem append_u8 {w : World} {ops : Array Oper} {rest : List Oper} {o : Oper} {a : Act} {Q : Exit → Act → World → Prop} (hgd : o.guard = none) (s x : Operand)
    (ho : o.op = .call { callee := .builtin .append, args := #[s, x], argTypes := #[28, 28] })
    (B : Nat) (W0 : World) (v : Value) (l r : List UInt8) (n : Nat) (hs : a.eval s = v) (hown : w.ownsRow B 5 1 v n (cellsOf l)) (ad : Addr) (m c : Nat)
    (hx : a.eval x = .slice (some ad) m c) (hm : r.length = m) (hnews : ∀ j (_ : j < r.length), w.cell? (ad.add j) = some (.int .u8 (r[j].toNat : Int)))
    (hlim : n + m ≤ 140737488355328) (hb : Below B W0 w) (hB : B ≤ W0.heap.size)
    (h : ∀ v' w', w'.ownsRow B 5 1 v' (n + m) (cellsOf (l ++ r)) → Below B W0 w' → w.grownBy w' v.ownBlock → wpList Tryd.prog ops Q rest (a.put o.dst v') w') :
    wpList Tryd.prog ops Q (o :: rest) a w := by
  obtain ⟨i0, hi, hz0, hz1, hz2⟩ := info_parts infoU8
  subst hm
  refine wpList_append_own _ hgd s x 28 ho B 5 i0 (.int .u8 0) 1 1 Tryd.underlying28 hi hz0 hz1 hz2 rfl (by decide) v n (cellsOf l) hs hown ad r.length c (cellsOf r) hx
    (by rw [cellsOf_len]; simp) ?_ (cellsOf_one r) (by unfold maxLen; omega) (by omega) (Nat.le_trans hB hb.size) ?_
  · intro j y hy
    by_cases hj : j < r.length
    · rw [cellsOf_get r j hj] at hy
      rw [hnews j hj, hy]
    · rw [List.getElem?_eq_none (by rw [cellsOf_len]; omega)] at hy
      cases hy
  · intro v' w' h1 h2 _
    refine h v' w' (by rw [cellsOf_append]; exact h1) (hb.grown h2 (Nat.le_trans hB hb.size) (fun k hk => (hown.lt k hk).1)) h2

set_option maxHeartbeats 4000000 in
set_option maxRecDepth 100000 in
theorem Text_any (b u : Nat) (w : World) (hb : 2 ≤ b) (hb2 : b ≤ 36) (hu : u < 18446744073709551616) :
    Calls Tryd.prog 13 #[.int .u64 u, .int .i64 b] w fun e w' => e = .returned (.string (str b u)) ∧ Below w.heap.size w w' := by
  obtain ⟨i0, hi, hz0, hz1, hz2⟩ := info_parts infoU8
  have hlen : (digs b u).length ≤ 64 := digs_len hb 63 u (by omega)
  have hds := Lib.digits36_size
  go_enter Tryd.func13, Tryd.ntmps13
  go_name_bytes_deep 30 DG hDG
  have eDG : DG = Lib.digits36 := by rw [← hDG]; decide +kernel
  subst eDG
  clear hDG
  go_wp2
  go_loopw [0, 6] (fun vx out wr => ∃ (v : Nat) (ds : List Nat), vx = .int .u64 v ∧ v ≤ u ∧ Hid (digs b u = digs b v ++ ds.reverse) ∧ wr.ownsRow w.heap.size 5 1 out ds.length (cellsOf (ds.map dch)) ∧ Below w.heap.size w wr) (fun vx _ _ => (intOf vx).toNat)
  case atStart => exact ⟨u, [], rfl, Nat.le_refl _, by simp [Hid], World.ownsRow_made w #[] 0 (Nat.le_refl _) (by decide) rfl, (Below.refl _ _).alloc (Nat.le_refl _) _⟩
  case round =>
    obtain ⟨v, ds, rfl, hv, HD, hown, hbel⟩ := hrel
    have hdl : ds.length + 1 ≤ 64 := by
      have h1 := congrArg List.length HD.out
      have h2 := digs_pos b v
      simp at h1; omega
    have hBs := hbel.size
    by_cases hlt : b ≤ v
    · obtain ⟨q, r, hq, hr, hrb, hqv, e1, e2⟩ := rem_facts v b hb (by omega)
      have HQ := Lib.hid hq
      have HR := Lib.hid hr
      clear hq hr
      have hdg := digit_at r (by omega)
      have hcell := one_new wr (Lib.digits36[r]'(by omega))
      have HC := Lib.hid hcell
      clear hcell hdg
      go_wp2_with (at_builtin; refine append_u8 rfl _ _ rfl w.heap.size w _ (ds.map dch) [Lib.digits36[r]'(by omega)] ds.length rfl (hown.alloc _) ⟨wr.heap.size, 0, none⟩ 1 1 rfl rfl HC.out (by omega) (hbel.alloc hBs _) (Nat.le_refl _) ?_; intro v' w1 hown1 hb1 _; refine Hid.out ?_)
      refine Lib.hid ?_
      go_wp2
      refine ⟨⟨q, ds ++ [r], rfl, by omega, ?_, ?_, hb1⟩, ?_⟩
      · show _ = _
        rw [HD.out, digs_ge hb hlt, HQ.out, HR.out]
        simp
      · rw [digit_at] at hown1
        simpa using hown1
      · simp [intOf]
        rw [HQ.out]
        exact Nat.div_lt_self (by omega) (by omega)
    · have hvb : v < b := by omega
      have hcell := one_new wr (Lib.digits36[v]'(by omega))
      have HC := Lib.hid hcell
      clear hcell
      go_wp2_with (at_builtin; refine append_u8 rfl _ _ rfl w.heap.size w _ (ds.map dch) [Lib.digits36[v]'(by omega)] ds.length rfl (hown.alloc _) ⟨wr.heap.size, 0, none⟩ 1 1 rfl rfl HC.out (by omega) (hbel.alloc hBs _) (Nat.le_refl _) ?_; intro v' w1 hown1 hb1 _; refine Hid.out ?_)
      refine Lib.hid ?_
      rw [digit_at] at hown1
      obtain ⟨g, cap, rfl⟩ := own_slice hown1 (by omega)
      have htx : text b u = (ds.map dch ++ [dch v]).reverse := by
        rw [text, HD.out, digs_lt hvb]; simp
      have HT := Lib.hid htx
      clear htx
      generalize hL : ds.map dch ++ [dch v] = L at hown1 HT
      have hLl : L.length = ds.length + 1 := by rw [← hL]; simp
      have HL := Lib.hid hL
      clear hL
      have hm63 : ds.length ≤ 63 := by omega
      generalize hm : ds.length = m at *
      clear hm hown hdl
      rename_i hgr
      clear hgr HC
      go_wp2
      go_loopw [7, 8, 9] (fun vi vk _ wr => ∃ (i k : Nat) (ys : List UInt8), vi = .int .i64 i ∧ vk = .int .i64 k ∧ i + k ≤ m ∧ m ≤ i + k ∧ i ≤ k + 1 ∧ Hid (RS L i ys) ∧ wr.ownsRow w.heap.size 5 1 (.slice (some ⟨g, 0, none⟩) (m + 1) cap) (m + 1) (cellsOf ys) ∧ Below w.heap.size w wr) (fun _ vk _ _ => (intOf vk).toNat)
      case atStart => exact ⟨0, m, L, rfl, by go_num, by omega, by omega, by omega, RS.start L, hown1, hb1⟩
      case round =>
        obtain ⟨i, k, ys, rfl, rfl, h1, h2, h3, HR, hown2, hb2'⟩ := hrel
        have hyl : ys.length = m + 1 := by rw [HR.out.1, hLl]
        have HYL := Lib.hid hyl
        have HLL := Lib.hid hLl
        clear hyl
        by_cases hlt2 : i < k
        · have hi1 : i < ys.length := by rw [HYL.out]; omega
          have hk1 : k < ys.length := by rw [HYL.out]; omega
          have hci : wr.cell? ⟨g, i, none⟩ = some (.int .u8 (ys[i].toNat : Int)) := by rw [hown2.cellAt i (by omega), cellsOf_get ys i hi1]
          have hck : wr.cell? ⟨g, k, none⟩ = some (.int .u8 (ys[k].toNat : Int)) := by rw [hown2.cellAt k (by omega), cellsOf_get ys k hk1]
          have hfi := hown2.frozenAt i
          have hfk := hown2.frozenAt k
          obtain ⟨hs1, hg1⟩ := hown2.stored i (.int .u8 (ys[k].toNat : Int))
          obtain ⟨hs2, hg2⟩ := hs1.stored k (.int .u8 (ys[i].toNat : Int))
          have hlt0 := hown2.lt g rfl
          have HS2 := Lib.hid hs2
          clear hs1 hg1 hs2 hg2 hLl
          go_wp2
          go_round
          case rel =>
            refine ⟨i + 1, k - 1, (ys.set i ys[k]).set k ys[i], by go_num, by go_num, by omega, by omega, by omega, ?_, ?_, (hb2'.setCell hlt0.1 _).setCell hlt0.1 _⟩
            · have hs := HR.out.step (by rw [HLL.out]; omega) hi1 (by rw [HYL.out, HLL.out]; omega)
              simp only [show L.length - 1 - i = k by rw [HLL.out]; omega] at hs
              exact hs
            · have := HS2.out
              rw [cellsOf_set, cellsOf_set] at this
              exact this
          case measure => simp [intOf]; omega
        · have hrev : ys = text b u := by rw [HR.out.done (by rw [HLL.out]; omega), HT.out]
          have hcv : (convert 28 9 (.slice (some ⟨g, 0, none⟩) (m + 1) cap)).run Tryd.prog wr = .ok (.string (str b u)) wr := by
            have h := run_convert_bytes_back (P := Tryd.prog) wr 28 9 5 ⟨g, 0, none⟩ cap (text b u) Tryd.underlying28 Tryd.underlying5 Tryd.underlying9 (fun j hj => by
              rw [hrev] at hown2
              rw [Lib.add_plain, show 0 + j = j by omega, hown2.cellAt j (by rw [← HYL.out, hrev]; omega), cellsOf_get _ j hj])
            rw [← hrev, HYL.out] at h
            rw [h, str_bs, ← hrev]
            rfl
          clear hrev hown2 hLl
          go_wp2
          go_ret
          exact ⟨rfl, hb2'⟩
/-- The same at a number that the walk spells otherwise. -/
theorem Text_of (n : Int) (b u : Nat) (hn : n = (u : Int)) (w : World) (hb : 2 ≤ b) (hb2 : b ≤ 36) (hu : u < 18446744073709551616) :
    Calls Tryd.prog 13 #[.int .u64 n, .int .i64 b] w fun e w' => e = .returned (.string (str b u)) ∧ Below w.heap.size w w' := by
  subst hn
  exact Text_any b u w hb hb2 hu
end Go.Proofs.YtjcejkenjmkinaaDoor
