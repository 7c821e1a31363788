/- laws.readTexts at quoted texts one behind the other. -/
import Derived.Test.YthjkpkkkjndjlaaDoorPre
import Derived.Deep.QuietTactic
namespace Go.Proofs.YthjkpkkkjndjlaaDoor
open Go.RowKit

/-- The tables of texts. -/
structure EnvX (w : World) : Prop where
  print : PrintOk Lib.goPrintTabs grTab w
  utf8 : Utf8Ok w
theorem EnvX.on {w w' : World} (h : EnvX w) (hb : Below w.heap.size w w') : EnvX w' := ⟨h.print.on hb, h.utf8.on hb⟩

/-- The text ahead of a round: the quoted text that is read there, and the rest. -/
theorem tail_facts (P : Nat → Int → Bool) (T : List ByteArray) (n : Nat) (e : T.length = n) (hb : bulkT T ≤ 1048576) (j : Nat) (h : j < T.length) :
    ∃ (Q : List Int) (Qs : ByteArray) (R : List UInt8), Qs = bs (nb Q) ∧ R = catQ P T (j + 1) (n - (j + 1)) ∧ catQ P T j (n - j) = nb Q ++ R ∧ (bs (nb Q ++ R)).extract Q.length (Q.length + R.length) = bs R ∧ Q = qZ (P j) (T[j]'h).data.toList ∧ 10 * (T[j]'h).data.toList.length + Q.length ≤ 20971522 ∧ Q.length + R.length ≤ 10485760 := by
  subst e
  have h1 := catQ_cons P T j (T.length - (j + 1)) h
  rw [show T.length - (j + 1) + 1 = T.length - j by omega] at h1
  have h2 := catQ_tail P T j (by omega)
  have h3 := bulk_mem T j h
  have h4 : (T[j]'h).data.toList.length = (T[j]'h).size := Array.length_toList
  have h5 := qZ_len (P j) (T[j]'h).data.toList
  refine ⟨qZ (P j) (T[j]'h).data.toList, _, _, rfl, rfl, h1, ?_, rfl, by omega, ?_⟩
  · exact bs_drop _ _ _ _ (by simp [nb]) (by simp [nb])
  · rw [h1, List.length_append] at h2
    simp only [nb, List.length_map] at h2
    omega

set_option maxRecDepth 100000 in
theorem readTexts_any (P : Nat → Int → Bool) (hP : ∀ k, FormOk (P k)) (a : Option Addr) (n c : Nat) (T : List ByteArray) (e1 : T.length = n) (w : World) (hin : StrsIn w a T) (hb : bulkT T ≤ 1048576) (hU : Utf8Ok w) :
    Calls Tryd.prog 14 #[.string (bs (catQ P T 0 n)), .slice a n c] w fun e w' => e = .returned (.bool true) ∧ Below w.heap.size w w' := by
  obtain ⟨S0, hS0⟩ : ∃ S0, S0 = bs (catQ P T 0 n) := ⟨_, rfl⟩
  rw [← hS0]
  have hn : n ≤ 5242880 := by
    have h2 := catQ_len P T T.length (Nat.le_refl _)
    rw [List.take_length] at h2
    omega
  have HS0 := Lib.hid hS0
  have HIN := Lib.hid hin
  have HB := Lib.hid hb
  have HU := Lib.hid hU
  have E1 := Lib.hid e1
  have HP := Lib.hid hP
  clear hS0 hin hb hU e1 hP
  go_enter Tryd.func14, Tryd.ntmps14
  go_wp2
  go_loopw [0, 6, 7, 8, 9, 10, 13] (fun vt _ _ _ _ _ vj wr => ∃ (j : Nat) (W : ByteArray), j ≤ n ∧ vj = .int .i64 j ∧ vt = .string W ∧ Hid (W = bs (catQ P T j (n - j))) ∧ Below w.heap.size w wr) (fun _ _ _ _ _ _ vj _ => n - (intOf vj).toNat)
  case atStart => exact ⟨0, S0, by omega, rfl, rfl, HS0, Below.refl _ _⟩
  case round =>
    obtain ⟨j, W, hj, rfl, rfl, HW, hbel⟩ := hrel
    by_cases hlt : j < n
    · have j3 : j < T.length := by rw [E1.out]; omega
      obtain ⟨b3, o3, rfl, k3⟩ := (HIN.out.on hbel) j j3
      obtain ⟨Q, Qs, R, hQs, hR, hW, hext, hq, hl1, hl2⟩ := tail_facts P T n E1.out HB.out j j3
      have hWe : W = bs (nb Q ++ R) := by rw [HW.out, hW]
      have hsz : W.size = Q.length + R.length := by rw [hWe, bs_size]; simp [nb]
      have hx2 : W.extract Q.length (Q.length + R.length) = bs R := by rw [hWe, hext]
      have hqs : Qs.size = Q.length := by rw [hQs, bs_size]; simp [nb]
      have cQ : Calls Tryd.prog 19 #[.string W] wr fun e w' => e = .returned (.tuple #[.string Qs, .bool true]) ∧ Below wr.heap.size wr w' := by
        rw [hWe, hQs, hq]
        exact QuotedPrefix_any (P j) (HP.out j) _ R (by omega) wr (HU.out.on hbel)
      have cU : ∀ w1, Below w.heap.size w w1 → Calls Tryd.prog 17 #[.string Qs] w1 fun e w' => e = .returned (.tuple #[.string (T[j]'j3), .bool true]) ∧ Below w1.heap.size w1 w' := fun w1 h1 => by
        rw [hQs, hq]
        have := Unquote_any (P j) (HP.out j) (T[j]'j3).data.toList (by omega) w1 (HU.out.on h1)
        rwa [bs_eta] at this
      have CQ := Lib.hid cQ
      have CU := Lib.hid cU
      have HR := Lib.hid (congrArg bs hR)
      clear cQ cU hR hQs hW hext hq hWe
      generalize T[j] = S at *
      generalize Q.length = q at *
      generalize bs R = Rs at *
      have hrl : R.length ≤ 10485760 := by omega
      have hql : q ≤ 10485762 := by omega
      clear hl1 hl2
      generalize R.length = r at *
      go_wp2_with (first
        | (go_at_call 19; refine CQ.out.mono ?_; rintro e w1 ⟨rfl, hw1⟩)
        | (go_at_call 17; refine (CU.out _ (hbel.trans (hw1.mono hbel.size))).mono ?_; rintro e w2 ⟨rfl, hw2⟩))
      exact ⟨⟨j + 1, Rs, by omega, by go_num, rfl, HR, (hbel.trans (hw1.mono hbel.size)).trans (hw2.mono (hbel.trans (hw1.mono hbel.size)).size)⟩, by simp [intOf]; omega⟩
    · obtain rfl : j = n := by omega
      have hW0 : W = ⟨#[]⟩ := by rw [HW.out, Nat.sub_self, catQ_zero]; rfl
      subst hW0
      go_wp2
      go_ret
      exact ⟨rfl, hbel⟩
end Go.Proofs.YthjkpkkkjndjlaaDoor
