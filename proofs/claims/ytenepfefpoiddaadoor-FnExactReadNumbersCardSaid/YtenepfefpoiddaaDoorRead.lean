/- impl.ParseInt in base 10 at every text, and impl.ReadNumbers. -/
import Derived.Test.YtenepfefpoiddaaDoorPIntS
import Derived.Test.YtenepfefpoiddaaDoorRow
namespace Go.Proofs.YtenepfefpoiddaaDoor
open Go.RowKit

/-- What impl.ParseInt(word, 10, 64) hands back. -/
def readOut (l : List UInt8) : Int × Int := match Lib.parseIntB 64 l with
  | .ok v => (v, 0)
  | .range => (Lib.intSat 64 l, 2)
  | _ => (0, 1)

theorem readOut_bd (l : List UInt8) : -9223372036854775808 ≤ (readOut l).1 ∧ (readOut l).1 ≤ 9223372036854775807 := by
  unfold readOut
  cases h : Lib.parseIntB 64 l
  · rename_i v
    show _ ≤ v ∧ v ≤ _
    cases l with
    | nil => exact absurd h (by simp [Lib.parseIntB])
    | cons c r =>
      simp only [Lib.parseIntB] at h
      cases hu : Lib.parseUintB 64 (if c.toNat = 43 ∨ c.toNat = 45 then r else c :: r)
      · rename_i u
        rw [hu] at h
        dsimp only at h
        split at h
        · cases h
        · split at h
          · cases h
          · rename_i h1 h2
            have e63 : (2 : Nat) ^ (64 - 1) = 9223372036854775808 := by decide
            rw [e63] at h1 h2
            have h3 := Lib.NumEnd.ok.inj h
            subst h3
            split
            · rename_i hn
              have : ¬ 9223372036854775808 < u := fun hl => h2 ⟨hn, hl⟩
              omega
            · rename_i hn
              have : ¬ 9223372036854775808 ≤ u := fun hl => h1 ⟨hn, hl⟩
              omega
      · rw [hu] at h; cases h
      · rw [hu] at h; cases h
  · show _ ≤ (0 : Int) ∧ (0 : Int) ≤ _
    omega
  · show _ ≤ Lib.intSat 64 l ∧ Lib.intSat 64 l ≤ _
    unfold Lib.intSat
    split
    · exact ⟨by decide, by decide⟩
    · exact ⟨by decide, by decide⟩

/-- impl.ParseInt in base 10 at every text. -/
theorem ParseInt_ten (S : ByteArray) (hS : S.size ≤ 281474976710656) (ar ay : Addr) (w : World) (hE : Errs ar ay w) :
    Calls Tryd.prog 25 #[.string S, .int .i64 10, .int .i64 64] w fun e w' => e = .returned (.tuple #[.int .i64 (readOut S.data.toList).1, .int .i64 (readOut S.data.toList).2]) ∧ Below w.heap.size w w' := by
  have hI : Calls Tryd.prog 53 #[.string S, .int .i64 10, .int .i64 64] w fun e w' => e = .returned (Lib.intTuple 73 (Lib.intSat 64 S.data.toList) (Lib.parseIntB 64 S.data.toList)) ∧ Below w.heap.size w w' := by
    refine (Tryd.internal_strconv_ParseInt_10_all64 S (by omega) w).mono ?_
    rintro e w' ⟨rfl, hw⟩
    refine ⟨rfl, ?_⟩
    rcases hw with rfl | ⟨t, rfl⟩
    · exact Below.refl _ _
    · exact Lib.bytesWorld_below _ _ _
  unfold readOut
  cases h : Lib.parseIntB 64 S.data.toList
  · rw [h] at hI
    exact ParseInt_ok0 10 _ S w (Lib.hid hI)
  · rw [h] at hI
    exact ParseInt_bad0 10 0 S hS ar ay w hE (Lib.hid hI)
  · rw [h] at hI
    exact ParseInt_range0 10 _ S hS ar ay w hE (Lib.hid hI)

set_option maxHeartbeats 1000000 in
set_option maxRecDepth 100000 in
/-- impl.ReadNumbers: two rows of the call's own. -/
theorem ReadNumbers_any (w : World) (a0 : Option Addr) (n cap : Nat) (ws : List ByteArray) (hn : ws.length = n) (lc : n ≤ cap) (hin : StrsIn w a0 ws) (hsz : ∀ s ∈ ws, s.size ≤ 281474976710656) (hlim : n ≤ 8796093022208) (ar ay : Addr) (hE : Errs ar ay w) :
    Calls Tryd.prog 29 #[.slice a0 n cap] w fun e w' => ∃ v1 v2, e = .returned (.tuple #[v1, v2]) ∧
      w'.ownsRow w.heap.size 2 1 v1 n (iCells (ws.map fun s => (readOut s.data.toList).1)) ∧ w'.ownsRow w.heap.size 3 1 v2 n (iCells (ws.map fun s => (readOut s.data.toList).2)) ∧ Below w.heap.size w w' := by
  have HN := Lib.hid hn
  have HIN := Lib.hid hin
  have HSZ := Lib.hid hsz
  clear hn hin hsz
  go_enter Tryd.func29, Tryd.ntmps29
  go_wp2
  go_loopw [4, 5, 7, 8, 9, 12] (fun v1 v2 _ _ _ vj wr => ∃ j : Nat, j ≤ n ∧ vj = .int .i64 j ∧ wr.ownsRow w.heap.size 2 1 v1 j (iCells ((ws.take j).map fun s => (readOut s.data.toList).1)) ∧ wr.ownsRow w.heap.size 3 1 v2 j (iCells ((ws.take j).map fun s => (readOut s.data.toList).2)) ∧ Below w.heap.size w wr) (fun _ _ _ _ _ vj _ => n - (intOf vj).toNat)
  case atStart => exact ⟨0, by omega, rfl, World.ownsRow_nil _ _ _ _, World.ownsRow_nil _ _ _ _, Below.refl _ _⟩
  case round =>
    obtain ⟨j, hj, rfl, o1, o2, hbel⟩ := hrel
    by_cases hlt : j < n
    · have hjx : j < ws.length := by rw [HN.out]; exact hlt
      obtain ⟨blk, off, rfl, hcell⟩ := (HIN.out.on hbel) j hjx
      have n1 : (ws.take (j + 1)).map (fun s => (readOut s.data.toList).1) = (ws.take j).map (fun s => (readOut s.data.toList).1) ++ [(readOut (ws[j]'hjx).data.toList).1] := by rw [← List.take_append_getElem hjx, List.map_append]; rfl
      have n2 : (ws.take (j + 1)).map (fun s => (readOut s.data.toList).2) = (ws.take j).map (fun s => (readOut s.data.toList).2) ++ [(readOut (ws[j]'hjx).data.toList).2] := by rw [← List.take_append_getElem hjx, List.map_append]; rfl
      have hPT := fun w1 hw1 => ParseInt_ten (ws[j]'hjx) (HSZ.out _ (List.getElem_mem hjx)) ar ay w1 hw1
      generalize (ws.take j).map (fun s => (readOut s.data.toList).1) = l1 at *
      generalize (ws.take j).map (fun s => (readOut s.data.toList).2) = l2 at *
      generalize (readOut (ws[j]'hjx).data.toList).1 = x at *
      generalize (readOut (ws[j]'hjx).data.toList).2 = c at *
      generalize ws[j] = S at *
      have HP := Lib.hid hPT
      have N1 := Lib.hid n1
      have N2 := Lib.hid n2
      clear hPT n1 n2 hjx
      have hE1 := hE.on hbel
      go_wp2_with (go_at_call 25; refine (HP.out _ hE1).mono ?_; rintro e w1 ⟨rfl, hw1⟩; refine Hid.out ?_)
      refine Lib.hid ?_
      have p1 := own_below o1 hw1
      have p2 := own_below o2 hw1
      have hb1 := hbel.trans (hw1.mono hbel.size)
      clear o1 o2 hcell hE1
      go_wp2_with (at_builtin; refine append_one rfl _ _ Tryd.underlying22 infoI64 rfl rfl w.heap.size w _ (iCells l1) j rfl (p1.alloc _) (.int .i64 x) rfl w1.heap.size rfl (new_one _ _ _) (by omega) (by omega) (hb1.alloc hb1.size _) (Nat.le_refl _) ?_; intro v1' w2 q1 hb2 hg2; refine Hid.out ?_)
      refine Lib.hid ?_
      have q2 := (p2.alloc _).kept hg2 (rows_apart p2 p1 (by decide))
      clear p1 p2 hg2
      go_wp2_with (at_builtin; refine append_one rfl _ _ Tryd.underlying44 infoInt rfl rfl w.heap.size w _ (iCells l2) j rfl (q2.alloc _) (.int .i64 c) rfl w2.heap.size rfl (new_one _ _ _) (by omega) (by omega) (hb2.alloc hb2.size _) (Nat.le_refl _) ?_; intro v2' w3 r2 hb3 hg3; refine Hid.out ?_)
      refine Lib.hid ?_
      have r1 := (q1.alloc _).kept hg3 (rows_apart q1 q2 (by decide))
      clear q1 q2 hg3
      go_wp2
      refine ⟨⟨j + 1, by omega, by go_num, ?_, ?_, hb3⟩, ?_⟩
      · rw [N1.out]; simpa [iCells] using r1
      · rw [N2.out]; simpa [iCells] using r2
      · simp [intOf]; omega
    · obtain rfl : j = n := by omega
      rw [List.take_of_length_le (by rw [HN.out]; omega)] at o1 o2
      have O1 := Lib.hid o1
      have O2 := Lib.hid o2
      clear o1 o2
      go_wp2
      go_ret2
      exact ⟨_, _, rfl, O1.out, O2.out, hbel⟩
end Go.Proofs.YtenepfefpoiddaaDoor
