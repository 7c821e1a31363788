/- Rows of numbers of the call's own: append of one element, and what lies in them. -/
import Derived.Test.YthjkpkkkjndjlaaDoorSlices
import Derived.OwnWalk
import Derived.Lib.OwnKind
import Derived.Laws.OwnMore
namespace Go.Proofs.YthjkpkkkjndjlaaDoor
open Go.RowKit

theorem infoInt : (Tryd.prog.info? 3).map (fun i => (i.zero, i.size, i.bytes)) = some (some (.int .i64 0), 1, 8) := by kernel_rfl
def iCells (l : List Int) : List Value := l.map (.int .i64)
theorem iCells_len (l : List Int) : (iCells l).length = l.length := by simp [iCells]
theorem iCells_get (l : List Int) (j : Nat) (h : j < l.length) : (iCells l)[j]? = some (.int .i64 (l[j]'h)) := by simp [iCells, h]
theorem own_form {w : World} {B : Nat} {e : TypeId} {size : Nat} {v : Value} {n : Nat} {xs : List Value} (h : w.ownsRow B e size v n xs) (hn : 0 < n) : ∃ g cap, v = .slice (some ⟨g, 0, none⟩) n cap := by
  rcases h.2 with ⟨_, h0⟩ | ⟨g, cap, cur, hv, _⟩
  · omega
  · exact ⟨g, cap, hv⟩
theorem own_shape {w : World} {B : Nat} {e : TypeId} {size : Nat} {v : Value} {n : Nat} {xs : List Value} (h : w.ownsRow B e size v n xs) : ∃ a cap, v = .slice a n cap := by
  rcases h.2 with ⟨h1, h0⟩ | ⟨g, cap, cur, hv, _⟩
  · exact ⟨none, 0, by rw [h1, h0]⟩
  · exact ⟨_, _, hv⟩
theorem own_below {B : Nat} {e : TypeId} {k : Nat} {v : Value} {n : Nat} {xs : List Value} {w w' : World} (h : w.ownsRow B e k v n xs) (hb : Below w.heap.size w w') : w'.ownsRow B e k v n xs :=
  h.kept (row := none) ⟨hb.os, hb.tape, hb.output, hb.size, fun j hj _ => hb.block j hj⟩ (by cases hv : v.ownBlock <;> simp)

/-- append of one element to a row of the call's own. -/
theorem append_one {w : World} {ops : Array Oper} {rest : List Oper} {o : Oper} {a : Act} {Q : Exit → Act → World → Prop} (hgd : o.guard = none) (s x : Operand) {t e : TypeId} {z : Value} {k : Nat}
    (ht : Tryd.prog.underlying t = some (.slice e)) (hinfo : (Tryd.prog.info? e).map (fun i => (i.zero, i.size, i.bytes)) = some (some z, 1, k)) (hz : z.cells.size = 1)
    (ho : o.op = .call { callee := .builtin .append, args := #[s, x], argTypes := #[t, t] })
    (B : Nat) (W0 : World) (v : Value) (l : List Value) (n : Nat) (hs : a.eval s = v) (hown : w.ownsRow B e 1 v n l) (y : Value) (hy : y.oneCell' = true) (g : Nat)
    (hx : a.eval x = .slice (some ⟨g, 0, none⟩) 1 1) (hcell : w.cell? ⟨g, 0, none⟩ = some y)
    (hlim : (n + 1) * k ≤ 140737488355328) (hn : n < 140737488355328) (hb : Below B W0 w) (hB : B ≤ W0.heap.size)
    (h : ∀ v' w', w'.ownsRow B e 1 v' (n + 1) (l ++ [y]) → Below B W0 w' → w.grownBy w' v.ownBlock → wpList Tryd.prog ops Q rest (a.put o.dst v') w') :
    wpList Tryd.prog ops Q (o :: rest) a w := by
  obtain ⟨i0, hi, hz0, hz1, hz2⟩ := info_parts hinfo
  refine wpList_append_own _ hgd s x t ho B e i0 z 1 k ht hi hz0 hz1 hz2 hz (by decide) v n l hs hown ⟨g, 0, none⟩ 1 1 [y] hx
    (by simp) ?_ (by simpa using hy) (by unfold maxLen; omega) hlim (Nat.le_trans hB hb.size) ?_
  · intro j u hu
    have hj : j = 0 := by
      rcases Nat.eq_zero_or_pos j with h0 | h0
      · exact h0
      · rw [List.getElem?_eq_none (by simp; omega)] at hu; cases hu
    subst hj
    rw [Lib.add_plain]
    simp at hu
    rw [← hu]
    exact hcell
  · intro v' w' h1 h2 _
    exact h v' w' h1 (hb.grown h2 (Nat.le_trans hB hb.size) (fun k hk => (hown.lt k hk).1)) h2
theorem new_one (w : World) (y : Value) (e : TypeId) : (w.alloc (.cells #[y] e)).cell? ⟨w.heap.size, 0, none⟩ = some y := by
  rw [World.cell?_alloc_new]; rfl
theorem own_int {w : World} {B : Nat} {a : Option Addr} {n cap : Nat} {l : List Int} {e : TypeId} (h : w.ownsRow B e 1 (.slice a n cap) n (iCells l)) (j : Nat) (hj : j < l.length) : ∃ g, a = some ⟨g, 0, none⟩ ∧ w.cell? ⟨g, j, none⟩ = some (.int .i64 (l[j]'hj)) := by
  have hn : n = l.length := by have := h.1; rw [iCells_len] at this; omega
  obtain ⟨g, c, he⟩ := own_form h (by omega)
  simp at he
  obtain ⟨rfl, rfl⟩ := he
  exact ⟨g, rfl, by rw [h.cellAt j (by omega), iCells_get l j hj]⟩
end Go.Proofs.YthjkpkkkjndjlaaDoor
