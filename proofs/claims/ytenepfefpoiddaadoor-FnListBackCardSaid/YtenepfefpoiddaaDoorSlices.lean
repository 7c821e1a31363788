/- Slices that a law is handed: their cells in one word, nil or not. -/
import Derived.Test.YtenepfefpoiddaaDoorEnvN
import Derived.SliceStrings
import Derived.Carry
namespace Go.Proofs.YtenepfefpoiddaaDoor
open Go.ChangeShapes Go.WideShapes Go.ChangeAt Go.RowKit

theorem laidOut : laidOutB Tryd.prog = true := by kernel_rfl

/-- The cells of a slice of numbers. -/
def IntsIn (W : World) (a0 : Option Addr) (xs : List Int) : Prop := ∀ i (h : i < xs.length), ∃ b off, a0 = some ⟨b, off, none⟩ ∧ W.cell? ⟨b, off + i, none⟩ = some (.int .i64 (xs[i]'h))
/-- The cells of a slice of texts. -/
def StrsIn (W : World) (a0 : Option Addr) (xs : List ByteArray) : Prop := ∀ i (h : i < xs.length), ∃ b off, a0 = some ⟨b, off, none⟩ ∧ W.cell? ⟨b, off + i, none⟩ = some (.string (xs[i]'h))

theorem IntsIn.on {W W' : World} {a0 : Option Addr} {xs : List Int} (h : IntsIn W a0 xs) (hb : Below W.heap.size W W') : IntsIn W' a0 xs := by
  intro i hi
  obtain ⟨b, off, h1, h2⟩ := h i hi
  exact ⟨b, off, h1, (hb.cell (p := ⟨b, off + i, none⟩) (Lib.lt_of_cell h2)).trans h2⟩
theorem StrsIn.on {W W' : World} {a0 : Option Addr} {xs : List ByteArray} (h : StrsIn W a0 xs) (hb : Below W.heap.size W W') : StrsIn W' a0 xs := by
  intro i hi
  obtain ⟨b, off, h1, h2⟩ := h i hi
  exact ⟨b, off, h1, (hb.cell (p := ⟨b, off + i, none⟩) (Lib.lt_of_cell h2)).trans h2⟩

theorem bulk_ints {H : Type} (k : IntKind) (xs : List Int) : xs.length ≤ Rows.uptoBulkAll (lits (H := H) k xs) := by
  induction xs with
  | nil => simp
  | cons x r ih =>
    have e : lits (H := H) k (x :: r) = .lit (.int k x) :: lits k r := rfl
    rw [e, Rows.uptoBulkAll, Rows.uptoBulk, List.length_cons]
    omega
    simp
theorem bulk_strs {H : Type} (xs : List ByteArray) : (xs.map (fun s => s.size + 1)).sum ≤ Rows.uptoBulkAll (strs (H := H) xs) := by
  induction xs with
  | nil => simp
  | cons x r ih =>
    have e : strs (H := H) (x :: r) = .lit (.string x.data.toList) :: strs r := rfl
    rw [e, Rows.uptoBulkAll, Rows.uptoBulk, List.map_cons, List.sum_cons]
    have : x.data.toList.length = x.size := Array.length_toList
    omega
theorem small {H : Type} {l : List (DataW H)} (hk : Rows.uptoSmall H l = true) : Rows.uptoBulkAll l ≤ 1048576 := of_decide_eq_true hk

theorem opened_ints {H : Type} {enc : TypeId × Value → H} {W : World} {t e : TypeId} {a0 : Option Addr} {len cap : Nat} {d0 : DataW H} {p : List MemPlace} (ht : Tryd.prog.underlying t = some (.slice e)) (he : Tryd.prog.underlying e = some (.int .i64)) (hc : Tryd.prog.cellsOf e = 1)
    (h0 : DataW.Trod enc Tryd.prog W 0 (fun _ => true) true t (.slice a0 len cap) d0 p) :
    ∃ xs : List Int, xs.length = len ∧ len ≤ cap ∧ cap ≤ maxLen ∧ IntsIn W a0 xs ∧ (∀ x ∈ xs, (Lit.int .i64 x).wf = true) ∧ xs.length ≤ Rows.uptoBulk d0 := by
  obtain ⟨fuel, hf⟩ := h0
  rcases open_ints ht he hc hf with ⟨hcs, hx⟩ | ⟨a, len', cap', zs, hcs, _, hl, hm, hz, hx, hcell, hwz⟩
  · simp [Value.cells] at hcs
    obtain ⟨rfl, rfl, rfl⟩ := hcs
    exact ⟨[], rfl, Nat.le_refl _, by decide, fun i hi => by simp at hi, fun x hx => by simp at hx, by simp⟩
  · simp [Value.cells] at hcs
    obtain ⟨rfl, rfl, rfl⟩ := hcs
    simp only [if_true] at hz
    refine ⟨zs.take len, by simp; omega, hl, hm, ?_, fun x hx => hwz x (List.mem_of_mem_take hx), ?_⟩
    rotate_left
    · rw [show d0 = _ from congrArg Prod.fst hx, Rows.uptoBulk]
      have := bulk_ints (H := H) .i64 (zs.take len)
      omega
    intro i hi
    have hi2 : i < zs.length := by simp at hi; omega
    obtain ⟨b, off, rfl, hc2⟩ := ints_at hcell (by omega)
    refine ⟨b, off, rfl, ?_⟩
    rw [hc2 i hi2]
    simp [List.getD, hi2]

theorem opened_strs {H : Type} {enc : TypeId × Value → H} {W : World} {t e : TypeId} {a0 : Option Addr} {len cap : Nat} {d0 : DataW H} {p : List MemPlace} (ht : Tryd.prog.underlying t = some (.slice e)) (he : Tryd.prog.underlying e = some .string) (hc : Tryd.prog.cellsOf e = 1)
    (h0 : DataW.Trod enc Tryd.prog W 0 (fun _ => true) true t (.slice a0 len cap) d0 p) :
    ∃ xs : List ByteArray, xs.length = len ∧ len ≤ cap ∧ cap ≤ maxLen ∧ StrsIn W a0 xs ∧ (∀ x ∈ xs, x.size ≤ maxLen) ∧ (xs.map (fun s => s.size + 1)).sum ≤ Rows.uptoBulk d0 := by
  obtain ⟨fuel, hf⟩ := h0
  rcases open_strings ht he hc hf with ⟨hcs, hx⟩ | ⟨a, len', cap', zs, hcs, _, hl, hm, hz, hx, hcell, hwz⟩
  · simp [Value.cells] at hcs
    obtain ⟨rfl, rfl, rfl⟩ := hcs
    exact ⟨[], rfl, Nat.le_refl _, by decide, fun i hi => by simp at hi, fun x hx => by simp at hx, by simp⟩
  · simp [Value.cells] at hcs
    obtain ⟨rfl, rfl, rfl⟩ := hcs
    simp only [if_true] at hz
    refine ⟨zs.take len, by simp; omega, hl, hm, ?_, fun x hx => hwz x (List.mem_of_mem_take hx), ?_⟩
    rotate_left
    · rw [show d0 = _ from congrArg Prod.fst hx, Rows.uptoBulk]
      have := bulk_strs (H := H) (zs.take len)
      omega
    intro i hi
    have hi2 : i < zs.length := by simp at hi; omega
    obtain ⟨b, off, spot⟩ := a
    have hspot : spot = none := by simpa [Addr.add] using World.cell?_spot (hcell 0 (by omega))
    subst hspot
    refine ⟨b, off, rfl, ?_⟩
    rw [← Go.WideShapes.add_plain, hcell i hi2]
    simp [List.getD, hi2]
end Go.Proofs.YtenepfefpoiddaaDoor
