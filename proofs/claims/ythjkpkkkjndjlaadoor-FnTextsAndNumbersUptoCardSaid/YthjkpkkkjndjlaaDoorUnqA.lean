/- unquote, QuotedPrefix, Unquote at a quoted text. -/
import Derived.Test.YthjkpkkkjndjlaaDoorUnqR
namespace Go.Proofs.YthjkpkkkjndjlaaDoor
open Go.RowKit

theorem bs_take (L : List UInt8) (k : Nat) : (bs L).extract 0 k = bs (L.take k) := by
  apply ByteArray.ext
  simp [bs, ByteArray.data_extract]
theorem bs_data (L : List UInt8) : (bs L).data.toList = L := by simp [bs]
theorem qZ_cut (p : Int → Bool) (l t : List UInt8) : nb (qZ p l) ++ t = 34 :: (nb (qFrom p l.length l) ++ 34 :: t) := by
  rw [qZ]
  show UInt8.ofNat (34 : Int).toNat :: (nb (qFrom p l.length l ++ [34])) ++ t = _
  rw [nb_append]
  simp
  rfl

theorem unquote_any (p : Int → Bool) (hlat : ∀ r : Int, 32 ≤ r → r < 127 → p r = true) (h10 : p 10 = false) (une : Bool) (l t : List UInt8) (lim : 10 * l.length + t.length + 2 ≤ 1048576000) (w : World) (hU : Utf8Ok w) :
    Calls Tryd.prog 40 #[.string (bs (nb (qZ p l) ++ t)), .bool une] w fun e w' => e = .returned (.tuple #[.string (if une then bs l else bs (nb (qZ p l))), .string (bs t), .nilIface]) ∧ Below w.heap.size w w' := by
  have hql := qFrom_len p l.length l
  have hBl : (nb (qFrom p l.length l)).length ≤ 10 * l.length := by rw [nb, List.length_map]; exact hql
  have hqz : nb (qZ p l) = 34 :: (nb (qFrom p l.length l) ++ [34]) := by have := qZ_cut p l []; simpa using this
  rw [qZ_cut, hqz]
  rcases raw_or_esc p h10 l.length l (Nat.le_refl _) with ⟨h1, h2, h3⟩ | ⟨a, b, h1, h2⟩
  · rw [h1]
    refine unq_quick une (bs (34 :: (l ++ 34 :: t))) (bs (l ++ 34 :: t)) (bs (34 :: (l ++ [34]))) (bs l) (bs t) _ (l.length + 2 + t.length) l.length ?_ (by omega) (first_is _ _ _ rfl) ?_ ?_ ?_ (by omega) ?_ ?_ ?_ ?_ (by omega) ?_ ?_ (by rw [bs_data]; exact h3) rfl w hU
    · rw [bs_size]; simp; omega
    · exact bs_drop [34] _ 1 _ rfl (by simp; omega)
    · rw [bs_take]
      congr 1
      rw [List.take_succ_cons, show l.length + 1 = l.length + 1 from rfl]
      congr 1
      rw [show l ++ 34 :: t = (l ++ [34]) ++ t by simp, List.take_append_of_le_length (by simp), List.take_of_length_le (by simp)]
    · rw [bs_size]; simp
    · have h5 : (bs (34 :: (l ++ 34 :: t))).extract 1 (l.length + 1) = bs l := by
        apply ByteArray.ext
        rw [ByteArray.data_extract]
        simp [bs, List.extract_toArray, List.extract]
      exact h5
    · have h5 : (bs (34 :: (l ++ [34]))).extract 1 (l.length + 1) = bs l := by
        apply ByteArray.ext
        rw [ByteArray.data_extract]
        simp [bs, List.extract_toArray, List.extract]
      exact h5
    · have := bs_drop (34 :: (l ++ [34])) t (l.length + 2) (l.length + 2 + t.length) (by simp) (by simp; omega)
      simpa using this
    · rw [bs_data]
      exact index_at 34 l t (fun c hc => (h2 c hc).1)
    · rw [bs_data, show (92 : Nat).toUInt8 = 92 from rfl, index_no 92 _ (fun c hc => by
        rcases List.mem_cons.1 hc with rfl | h4
        · decide
        · rcases List.mem_append.1 h4 with h5 | h5
          · exact (h2 c h5).2.1
          · rw [List.mem_singleton.1 h5]; decide)]
      rfl
    · rw [bs_data, show (10 : Nat).toUInt8 = 10 from rfl, index_no 10 _ (fun c hc => by
        rcases List.mem_cons.1 hc with rfl | h4
        · decide
        · rcases List.mem_append.1 h4 with h5 | h5
          · exact (h2 c h5).2.2
          · rw [List.mem_singleton.1 h5]; decide)]
      rfl
  · obtain ⟨B, hB⟩ : ∃ B, B = nb (qFrom p l.length l) := ⟨_, rfl⟩
    have hge := Lib.indexByte_ge (B ++ 34 :: t) 34
    have hne : Lib.indexByte (B ++ 34 :: t) 34 ≠ -1 := fun h => Lib.indexByte_none h B.length (by simp)
    obtain ⟨e, he⟩ : ∃ e : Nat, Lib.indexByte (B ++ 34 :: t) 34 = (e : Int) := ⟨(Lib.indexByte (B ++ 34 :: t) 34).toNat, by omega⟩
    obtain ⟨he1, he2⟩ := Lib.indexByte_some he
    have heB : e ≤ B.length := by
      by_cases h4 : e ≤ B.length
      · exact h4
      · exact absurd (show (B ++ 34 :: t)[B.length]? = some 34 by simp) (he2 B.length (by omega))
    rw [← hB] at h1 hBl
    have hea : a.length < e := by
      by_cases h4 : a.length < e
      · exact h4
      · exfalso
        rw [h1, List.append_assoc] at he1
        by_cases h5 : e < a.length
        · rw [List.getElem?_append_left h5, List.getElem?_eq_getElem h5] at he1
          have := h2 _ (List.getElem_mem h5)
          rw [Option.some.inj he1] at this
          exact this rfl
        · obtain rfl : e = a.length := by omega
          rw [List.getElem?_append_right (Nat.le_refl _)] at he1
          simp at he1
    have hcon : (Lib.indexByte (bs ((34 :: (B ++ 34 :: t)).take (e + 2))).data.toList (92 : Nat).toUInt8 != -1) = true := by
      rw [bs_data, bne_iff_ne]
      intro h6
      have h7 := Lib.indexByte_none h6 (a.length + 1)
      apply h7
      rw [List.getElem?_take, if_pos (by omega), List.getElem?_cons_succ, h1, List.append_assoc, List.getElem?_append_right (Nat.le_refl _)]
      simp
    have hsz : (bs (34 :: (B ++ 34 :: t))).size = B.length + 2 + t.length := by rw [bs_size]; simp; omega
    have hs1 : (bs (34 :: (B ++ 34 :: t))).extract 1 (B.length + 2 + t.length) = bs (B ++ 34 :: t) := bs_drop [34] _ 1 _ rfl (by simp; omega)
    have hidx : Lib.indexByte (bs (B ++ 34 :: t)).data.toList (34 : Nat).toUInt8 = (e : Int) := by rw [bs_data]; exact he
    rw [← hB]
    rw [hB] at hs1 hidx hsz hcon ⊢
    cases une
    · have hQ : (bs (34 :: (nb (qFrom p l.length l) ++ 34 :: t))).extract 0 ((nb (qFrom p l.length l)).length + 2 + t.length - t.length) = bs (34 :: (nb (qFrom p l.length l) ++ [34])) := by
        rw [bs_take]
        congr 1
        rw [show (nb (qFrom p l.length l)).length + 2 + t.length - t.length = (nb (qFrom p l.length l)).length + 1 + 1 by omega, List.take_succ_cons]
        congr 1
        rw [show nb (qFrom p l.length l) ++ 34 :: t = (nb (qFrom p l.length l) ++ [34]) ++ t by simp, List.take_append_of_le_length (by simp), List.take_of_length_le (by simp)]
      exact unq_slow_false p hlat h10 l t _ _ _ _ e hsz (by omega) (first_is _ _ _ rfl) hs1 (bs_take _ _) (by rw [← hB]; omega) hidx (by rw [← hB]; omega) hcon hQ w hU (by omega)
    · exact unq_slow_true p hlat h10 l t _ _ _ e hsz (by omega) (first_is _ _ _ rfl) hs1 (bs_take _ _) (by rw [← hB]; omega) hidx (by rw [← hB]; omega) hcon w hU (by omega) (by omega)
end Go.Proofs.YthjkpkkkjndjlaaDoor
