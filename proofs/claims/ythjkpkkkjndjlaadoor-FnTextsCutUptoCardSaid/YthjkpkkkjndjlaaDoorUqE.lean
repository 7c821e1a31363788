/- UnquoteChar at a quoted step of ASCII that is cut short: an error. -/
import Derived.Test.YthjkpkkkjndjlaaDoorUqS
import Derived.Test.YthjkpkkkjndjlaaDoorEnvN
import Derived.Stop.LaidErr
namespace Go.Proofs.YthjkpkkkjndjlaaDoor
open Go.RowKit

/-- What UnquoteChar hands back in an error. -/
abbrev errV (ay : Addr) : Value := .iface 121 (.pointer (some ay))
/-- The sentinel as the row lays it. -/
def ErrOk (ay : Addr) (w : World) : Prop := w.cell? ⟨0, 0, none⟩ = some (errV ay)
theorem ErrOk.on {ay : Addr} {w w' : World} (h : ErrOk ay w) (hb : Below w.heap.size w w') : ErrOk ay w' := (hb.cell (p := ⟨0, 0, none⟩) (Lib.lt_of_cell h)).trans h
theorem gSyn : Tryd.prog.globalNamed "strconv.ErrSyntax" = some 0 := by kernel_rfl
theorem gSynType : (Tryd.prog.globals[0]?).map (·.type) = some 47 := by kernel_rfl
theorem cellsEs : Tryd.prog.cellsOf 123 = 1 := by kernel_rfl
theorem cellsSt : Tryd.prog.cellsOf 9 = 1 := by kernel_rfl
theorem starEs : "*" ++ "errors.errorString" = "*errors.errorString" := by decide
theorem oneEs (u : TypeId) (h : Tryd.prog.typeName? 3 u = some "*errors.errorString") : u = 121 :=
  typeName_ptr_named (nm := "errors.errorString") (by rw [starEs]; kernel_rfl) (by kernel_rfl) (by decide) u (by rw [starEs]; exact h)
open Go.ChangeShapes Go.WideShapes Go.ChangeAt in
theorem err_of {W : World} {rest : List (String × DataW Unit)} (h : laidMet Tryd.prog (("strconv.ErrSyntax", Rows.laid_strconv_ErrSyntax) :: rest) W) : ∃ ay, ErrOk ay W := by
  obtain ⟨a0, s0, hv0, _⟩ := laid_sentinel h gSyn gSynType Tryd.underlying47 oneEs Tryd.underlying121 Tryd.underlying123 rfl rfl Tryd.underlying9 cellsEs cellsSt
  exact ⟨a0, by show W.cell? ⟨0, 0, none⟩ = some (errV a0); simpa using World.var?_cell gSyn hv0 0⟩

theorem take_esc (c : UInt8) (r : List UInt8) (k : Nat) (h0 : 0 < k) (h1 : k < r.length + 2) : (92 :: c :: r).take k = [92] ∨ ∃ s, (92 :: c :: r).take k = 92 :: c :: s ∧ s.length < r.length := by
  rcases k with _ | _ | k
  · omega
  · exact .inl (by simp)
  · exact .inr ⟨r.take k, by simp, by rw [List.length_take]; omega⟩

/-- What a step is that is cut short. -/
def CutStep (L : List UInt8) : Prop := L = [92] ∨ ∃ c s, L = 92 :: c :: s ∧ (c.toNat = 120 ∧ s.length < 2 ∨ c.toNat = 117 ∧ s.length < 4 ∨ c.toNat = 85 ∧ s.length < 8)
theorem cut_of (c : UInt8) (r : List UInt8) (k : Nat) (h0 : 0 < k) (h1 : k < (92 :: c :: r).length) (h : r.length = 0 ∨ c.toNat = 120 ∧ r.length = 2 ∨ c.toNat = 117 ∧ r.length = 4 ∨ c.toNat = 85 ∧ r.length = 8) : CutStep ((92 :: c :: r).take k) := by
  rcases take_esc c r k h0 (by simpa using h1) with h2 | ⟨s, h2, h3⟩
  · exact .inl h2
  · refine .inr ⟨c, s, h2, ?_⟩
    omega
theorem escT_shape (r : Int) : ∃ c s, nb (escT r) = 92 :: c :: s ∧ (s.length = 0 ∨ c.toNat = 120 ∧ s.length = 2 ∨ c.toNat = 117 ∧ s.length = 4 ∨ c.toNat = 85 ∧ s.length = 8) := by
  have hx : ∀ r n, (nb (Lib.hexDigits r n)).length = n := fun r n => by rw [nb, List.length_map, hexDigits_len]
  unfold escT
  repeat' split
  all_goals first
    | exact ⟨_, [], rfl, .inl rfl⟩
    | exact ⟨120, _, rfl, .inr (.inl ⟨rfl, rfl⟩)⟩
    | exact ⟨117, _, rfl, .inr (.inr (.inl ⟨rfl, hx _ _⟩))⟩
    | exact ⟨85, _, rfl, .inr (.inr (.inr ⟨rfl, hx _ _⟩))⟩
theorem step_cut (p : Int → Bool) (hlow : ∀ r : Int, p r = true → r < 128) (l : List UInt8) (k : Nat) (h0 : 0 < k) (h1 : k < (nb (qStep p l)).length) : CutStep ((nb (qStep p l)).take k) := by
  by_cases hb : bad l
  · rw [qStep, if_pos hb] at h1 ⊢
    exact cut_of 120 _ k h0 h1 (.inr (.inl ⟨rfl, rfl⟩))
  · rw [qStep, if_neg hb, escR] at h1 ⊢
    by_cases h2 : ((Lib.decodeL l).1 : Int) = 34 ∨ ((Lib.decodeL l).1 : Int) = 92
    · rw [if_pos h2] at h1 ⊢
      exact cut_of _ [] k h0 h1 (.inl rfl)
    · rw [if_neg h2] at h1 ⊢
      by_cases hp : p ((Lib.decodeL l).1 : Int) = true
      · rw [if_pos hp] at h1
        have h3 := hlow _ hp
        rw [Lib.encodeRuneZ_one (by omega) (by omega)] at h1
        simp [nb] at h1
        omega
      · rw [if_neg hp] at h1 ⊢
        obtain ⟨c, s, h4, h5⟩ := escT_shape ((Lib.decodeL l).1 : Int)
        rw [h4] at h1 ⊢
        exact cut_of c s k h0 h1 h5

set_option maxHeartbeats 1000000 in
set_option maxRecDepth 100000 in
theorem uq_cut1 (S : ByteArray) (hn : S.size = 1) (h0 : ∀ h : 0 < S.size, (S[0]'h).toNat = 92) (ay : Addr) (w : World) (hv : w.cell? ⟨0, 0, none⟩ = some (errV ay)) :
    Calls Tryd.prog 58 #[.string S, .int .u8 34] w fun e w' => e = .returned (.tuple #[.int .i32 0, .bool false, .string ⟨#[]⟩, errV ay]) ∧ Below w.heap.size w w' := by
  have hc0 := h0 (by omega)
  clear h0
  go_enter Tryd.func58, Tryd.ntmps58
  go_big_wp2
  (try simp only [Exit.inBlock, Exit.then]); refine bodyPost_ret (results_tmp4 rfl _ _ _) rfl ?_
  exact ⟨rfl, Below.refl _ _⟩

set_option maxHeartbeats 1000000 in
set_option maxRecDepth 100000 in
theorem uq_cut120 (S T : ByteArray) (n m : Nat) (hn : S.size = n) (hp : 2 ≤ n) (h0 : ∀ h : 0 < S.size, (S[0]'h).toNat = 92) (h1 : ∀ h : 1 < S.size, (S[1]'h).toNat = 120) (hT : S.extract 2 n = T) (hm : T.size = m) (hm2 : m < 2) (lim : n ≤ 1099511627776) (ay : Addr) (w : World) (hv : w.cell? ⟨0, 0, none⟩ = some (errV ay)) :
    Calls Tryd.prog 58 #[.string S, .int .u8 34] w fun e w' => e = .returned (.tuple #[.int .i32 0, .bool false, .string ⟨#[]⟩, errV ay]) ∧ Below w.heap.size w w' := by
  have hc0 := h0 (by omega)
  have hc1 := h1 (by omega)
  have gn0 : ((n : Int) == 0) = false := by simp; omega
  clear h0 h1
  go_enter Tryd.func58, Tryd.ntmps58
  go_big_wp2
  (try simp only [Exit.inBlock, Exit.then]); refine bodyPost_ret (results_tmp4 rfl _ _ _) rfl ?_
  exact ⟨rfl, Below.refl _ _⟩

set_option maxHeartbeats 1000000 in
set_option maxRecDepth 100000 in
theorem uq_cut117 (S T : ByteArray) (n m : Nat) (hn : S.size = n) (hp : 2 ≤ n) (h0 : ∀ h : 0 < S.size, (S[0]'h).toNat = 92) (h1 : ∀ h : 1 < S.size, (S[1]'h).toNat = 117) (hT : S.extract 2 n = T) (hm : T.size = m) (hm2 : m < 4) (lim : n ≤ 1099511627776) (ay : Addr) (w : World) (hv : w.cell? ⟨0, 0, none⟩ = some (errV ay)) :
    Calls Tryd.prog 58 #[.string S, .int .u8 34] w fun e w' => e = .returned (.tuple #[.int .i32 0, .bool false, .string ⟨#[]⟩, errV ay]) ∧ Below w.heap.size w w' := by
  have hc0 := h0 (by omega)
  have hc1 := h1 (by omega)
  have gn0 : ((n : Int) == 0) = false := by simp; omega
  clear h0 h1
  go_enter Tryd.func58, Tryd.ntmps58
  go_big_wp2
  (try simp only [Exit.inBlock, Exit.then]); refine bodyPost_ret (results_tmp4 rfl _ _ _) rfl ?_
  exact ⟨rfl, Below.refl _ _⟩

set_option maxHeartbeats 1000000 in
set_option maxRecDepth 100000 in
theorem uq_cut85 (S T : ByteArray) (n m : Nat) (hn : S.size = n) (hp : 2 ≤ n) (h0 : ∀ h : 0 < S.size, (S[0]'h).toNat = 92) (h1 : ∀ h : 1 < S.size, (S[1]'h).toNat = 85) (hT : S.extract 2 n = T) (hm : T.size = m) (hm2 : m < 8) (lim : n ≤ 1099511627776) (ay : Addr) (w : World) (hv : w.cell? ⟨0, 0, none⟩ = some (errV ay)) :
    Calls Tryd.prog 58 #[.string S, .int .u8 34] w fun e w' => e = .returned (.tuple #[.int .i32 0, .bool false, .string ⟨#[]⟩, errV ay]) ∧ Below w.heap.size w w' := by
  have hc0 := h0 (by omega)
  have hc1 := h1 (by omega)
  have gn0 : ((n : Int) == 0) = false := by simp; omega
  clear h0 h1
  go_enter Tryd.func58, Tryd.ntmps58
  go_big_wp2
  (try simp only [Exit.inBlock, Exit.then]); refine bodyPost_ret (results_tmp4 rfl _ _ _) rfl ?_
  exact ⟨rfl, Below.refl _ _⟩

/-- UnquoteChar at a step that is cut short. -/
theorem uq_cut (L : List UInt8) (hL : CutStep L) (ay : Addr) (w : World) (hv : w.cell? ⟨0, 0, none⟩ = some (errV ay)) :
    Calls Tryd.prog 58 #[.string (bs L), .int .u8 34] w fun e w' => e = .returned (.tuple #[.int .i32 0, .bool false, .string ⟨#[]⟩, errV ay]) ∧ Below w.heap.size w w' := by
  rcases hL with rfl | ⟨c, s, rfl, h⟩
  · exact uq_cut1 _ rfl (first_is _ _ _ rfl) ay w hv
  · rcases h with ⟨hc, hs⟩ | ⟨hc, hs⟩ | ⟨hc, hs⟩
    · exact uq_cut120 _ (bs s) (2 + s.length) s.length (by rw [bs_size]; simp; omega) (by omega) (first_is _ _ _ rfl) (second_is _ _ _ _ hc) (bs_drop [92, c] s 2 _ rfl (by rw [List.length_append]; rfl)) (bs_size s) hs (by omega) ay w hv
    · exact uq_cut117 _ (bs s) (2 + s.length) s.length (by rw [bs_size]; simp; omega) (by omega) (first_is _ _ _ rfl) (second_is _ _ _ _ hc) (bs_drop [92, c] s 2 _ rfl (by rw [List.length_append]; rfl)) (bs_size s) hs (by omega) ay w hv
    · exact uq_cut85 _ (bs s) (2 + s.length) s.length (by rw [bs_size]; simp; omega) (by omega) (first_is _ _ _ rfl) (second_is _ _ _ _ hc) (bs_drop [92, c] s 2 _ rfl (by rw [List.length_append]; rfl)) (bs_size s) hs (by omega) ay w hv
end Go.Proofs.YthjkpkkkjndjlaaDoor
