/- UnquoteChar at each shape of a quoted step. (Printed by uqc.py.) -/
import Derived.Test.YthjkpkkkjndjlaaDoorUq
import Derived.Deep.QuietTactic
import Derived.BigQuiet
namespace Go.Proofs.YthjkpkkkjndjlaaDoor
open Go.RowKit

theorem below_drewN {B : Nat} {a w : World} (h : Below B a w) (n : Nat) : Below B a (w.drewN n) := ⟨h.os, h.tape, h.output, h.size, h.block⟩
theorem results_tmp4 {fn : Func} {t u v x : Tmp} (h : fn.results = #[.tmp t, .tmp u, .tmp v, .tmp x]) (tmps : Array Value) (P : Program) (w : World) :
    (results fn tmps).run P w = .ok (.tuple #[tmps.getD t undef, tmps.getD u undef, tmps.getD v undef, tmps.getD x undef]) w := by
  simp [results, h]

set_option maxHeartbeats 1000000 in
set_option maxRecDepth 100000 in
theorem uq_ascii (S R : ByteArray) (n c : Nat) (hn : S.size = n) (hp : 0 < n) (h0 : ∀ h : 0 < S.size, (S[0]'h).toNat = c) (hc : c < 128) (h34 : c ≠ 34) (h92 : c ≠ 92) (hR : S.extract 1 n = R) (lim : n ≤ 1099511627776) (w : World) :
    Calls Tryd.prog 58 #[.string S, .int .u8 34] w fun e w' => e = .returned (.tuple #[.int .i32 c, .bool false, .string R, .nilIface]) ∧ Below w.heap.size w w' := by
  have hc0 := h0 (by omega)
  clear h0
  have q1 : ((c : Int) == 34) = false := by simp; omega
  have q2 : ((c : Int) == 92) = false := by simp; omega
  have q2' : ((c : Int) != 92) = true := by simp; omega
  have j0 : (0 : Int) < (n : Int) := by omega
  go_enter Tryd.func58, Tryd.ntmps58
  go_big_wp2
  go_quiet (fail)
  go_big_wp2
  (try simp only [Exit.inBlock, Exit.then]); refine bodyPost_ret (results_tmp4 rfl _ _ _) rfl ?_
  exact ⟨rfl, below_drewN (Below.refl _ _) _⟩

set_option maxHeartbeats 1000000 in
set_option maxRecDepth 100000 in
theorem uq_multi (S R : ByteArray) (n c r k : Nat) (hn : S.size = n) (hp : 0 < n) (h0 : ∀ h : 0 < S.size, (S[0]'h).toNat = c) (hc : 128 ≤ c) (hc2 : c < 256) (hk : k ≤ n) (hR : S.extract k n = R) (lim : n ≤ 1099511627776) (w : World)
    (HD : Hid (Calls Tryd.prog 57 #[.string S] w fun e w' => e = .returned (.tuple #[.int .i32 r, .int .i64 k]) ∧ Below w.heap.size w w')) :
    Calls Tryd.prog 58 #[.string S, .int .u8 34] w fun e w' => e = .returned (.tuple #[.int .i32 r, .bool true, .string R, .nilIface]) ∧ Below w.heap.size w w' := by
  have hc0 := h0 (by omega)
  clear h0
  have q1 : ((c : Int) == 34) = false := by simp; omega
  have q3 : decide (128 ≤ (c : Int)) = true := by simp; omega
  have j0 : (0 : Int) ≤ (k : Int) := by omega
  have j1 : (k : Int) ≤ (n : Int) := by omega
  go_enter Tryd.func58, Tryd.ntmps58
  go_big_wp2_with (go_at_call 57; refine HD.out.mono ?_; rintro e w1 ⟨rfl, hw1⟩)
  go_quiet (fail)
  go_big_wp2
  (try simp only [Exit.inBlock, Exit.then]); refine bodyPost_ret (results_tmp4 rfl _ _ _) rfl ?_
  exact ⟨rfl, below_drewN hw1 _⟩

set_option maxHeartbeats 1000000 in
set_option maxRecDepth 100000 in
theorem uq_esc97 (S T : ByteArray) (n : Nat) (hn : S.size = n) (hp : 2 ≤ n) (h0 : ∀ h : 0 < S.size, (S[0]'h).toNat = 92) (h1 : ∀ h : 1 < S.size, (S[1]'h).toNat = 97) (hR : S.extract 2 n = T) (lim : n ≤ 1099511627776) (w : World) :
    Calls Tryd.prog 58 #[.string S, .int .u8 34] w fun e w' => e = .returned (.tuple #[.int .i32 7, .bool false, .string T, .nilIface]) ∧ Below w.heap.size w w' := by
  have hc0 := h0 (by omega)
  have hc1 := h1 (by omega)
  clear h0 h1
  go_enter Tryd.func58, Tryd.ntmps58
  go_big_wp2
  (try simp only [Exit.inBlock, Exit.then]); refine bodyPost_ret (results_tmp4 rfl _ _ _) rfl ?_
  exact ⟨rfl, Below.refl _ _⟩

set_option maxHeartbeats 1000000 in
set_option maxRecDepth 100000 in
theorem uq_esc98 (S T : ByteArray) (n : Nat) (hn : S.size = n) (hp : 2 ≤ n) (h0 : ∀ h : 0 < S.size, (S[0]'h).toNat = 92) (h1 : ∀ h : 1 < S.size, (S[1]'h).toNat = 98) (hR : S.extract 2 n = T) (lim : n ≤ 1099511627776) (w : World) :
    Calls Tryd.prog 58 #[.string S, .int .u8 34] w fun e w' => e = .returned (.tuple #[.int .i32 8, .bool false, .string T, .nilIface]) ∧ Below w.heap.size w w' := by
  have hc0 := h0 (by omega)
  have hc1 := h1 (by omega)
  clear h0 h1
  go_enter Tryd.func58, Tryd.ntmps58
  go_big_wp2
  (try simp only [Exit.inBlock, Exit.then]); refine bodyPost_ret (results_tmp4 rfl _ _ _) rfl ?_
  exact ⟨rfl, Below.refl _ _⟩

set_option maxHeartbeats 1000000 in
set_option maxRecDepth 100000 in
theorem uq_esc102 (S T : ByteArray) (n : Nat) (hn : S.size = n) (hp : 2 ≤ n) (h0 : ∀ h : 0 < S.size, (S[0]'h).toNat = 92) (h1 : ∀ h : 1 < S.size, (S[1]'h).toNat = 102) (hR : S.extract 2 n = T) (lim : n ≤ 1099511627776) (w : World) :
    Calls Tryd.prog 58 #[.string S, .int .u8 34] w fun e w' => e = .returned (.tuple #[.int .i32 12, .bool false, .string T, .nilIface]) ∧ Below w.heap.size w w' := by
  have hc0 := h0 (by omega)
  have hc1 := h1 (by omega)
  clear h0 h1
  go_enter Tryd.func58, Tryd.ntmps58
  go_big_wp2
  (try simp only [Exit.inBlock, Exit.then]); refine bodyPost_ret (results_tmp4 rfl _ _ _) rfl ?_
  exact ⟨rfl, Below.refl _ _⟩

set_option maxHeartbeats 1000000 in
set_option maxRecDepth 100000 in
theorem uq_esc110 (S T : ByteArray) (n : Nat) (hn : S.size = n) (hp : 2 ≤ n) (h0 : ∀ h : 0 < S.size, (S[0]'h).toNat = 92) (h1 : ∀ h : 1 < S.size, (S[1]'h).toNat = 110) (hR : S.extract 2 n = T) (lim : n ≤ 1099511627776) (w : World) :
    Calls Tryd.prog 58 #[.string S, .int .u8 34] w fun e w' => e = .returned (.tuple #[.int .i32 10, .bool false, .string T, .nilIface]) ∧ Below w.heap.size w w' := by
  have hc0 := h0 (by omega)
  have hc1 := h1 (by omega)
  clear h0 h1
  go_enter Tryd.func58, Tryd.ntmps58
  go_big_wp2
  (try simp only [Exit.inBlock, Exit.then]); refine bodyPost_ret (results_tmp4 rfl _ _ _) rfl ?_
  exact ⟨rfl, Below.refl _ _⟩

set_option maxHeartbeats 1000000 in
set_option maxRecDepth 100000 in
theorem uq_esc114 (S T : ByteArray) (n : Nat) (hn : S.size = n) (hp : 2 ≤ n) (h0 : ∀ h : 0 < S.size, (S[0]'h).toNat = 92) (h1 : ∀ h : 1 < S.size, (S[1]'h).toNat = 114) (hR : S.extract 2 n = T) (lim : n ≤ 1099511627776) (w : World) :
    Calls Tryd.prog 58 #[.string S, .int .u8 34] w fun e w' => e = .returned (.tuple #[.int .i32 13, .bool false, .string T, .nilIface]) ∧ Below w.heap.size w w' := by
  have hc0 := h0 (by omega)
  have hc1 := h1 (by omega)
  clear h0 h1
  go_enter Tryd.func58, Tryd.ntmps58
  go_big_wp2
  (try simp only [Exit.inBlock, Exit.then]); refine bodyPost_ret (results_tmp4 rfl _ _ _) rfl ?_
  exact ⟨rfl, Below.refl _ _⟩

set_option maxHeartbeats 1000000 in
set_option maxRecDepth 100000 in
theorem uq_esc116 (S T : ByteArray) (n : Nat) (hn : S.size = n) (hp : 2 ≤ n) (h0 : ∀ h : 0 < S.size, (S[0]'h).toNat = 92) (h1 : ∀ h : 1 < S.size, (S[1]'h).toNat = 116) (hR : S.extract 2 n = T) (lim : n ≤ 1099511627776) (w : World) :
    Calls Tryd.prog 58 #[.string S, .int .u8 34] w fun e w' => e = .returned (.tuple #[.int .i32 9, .bool false, .string T, .nilIface]) ∧ Below w.heap.size w w' := by
  have hc0 := h0 (by omega)
  have hc1 := h1 (by omega)
  clear h0 h1
  go_enter Tryd.func58, Tryd.ntmps58
  go_big_wp2
  (try simp only [Exit.inBlock, Exit.then]); refine bodyPost_ret (results_tmp4 rfl _ _ _) rfl ?_
  exact ⟨rfl, Below.refl _ _⟩

set_option maxHeartbeats 1000000 in
set_option maxRecDepth 100000 in
theorem uq_esc118 (S T : ByteArray) (n : Nat) (hn : S.size = n) (hp : 2 ≤ n) (h0 : ∀ h : 0 < S.size, (S[0]'h).toNat = 92) (h1 : ∀ h : 1 < S.size, (S[1]'h).toNat = 118) (hR : S.extract 2 n = T) (lim : n ≤ 1099511627776) (w : World) :
    Calls Tryd.prog 58 #[.string S, .int .u8 34] w fun e w' => e = .returned (.tuple #[.int .i32 11, .bool false, .string T, .nilIface]) ∧ Below w.heap.size w w' := by
  have hc0 := h0 (by omega)
  have hc1 := h1 (by omega)
  clear h0 h1
  go_enter Tryd.func58, Tryd.ntmps58
  go_big_wp2
  (try simp only [Exit.inBlock, Exit.then]); refine bodyPost_ret (results_tmp4 rfl _ _ _) rfl ?_
  exact ⟨rfl, Below.refl _ _⟩

set_option maxHeartbeats 1000000 in
set_option maxRecDepth 100000 in
theorem uq_esc92 (S T : ByteArray) (n : Nat) (hn : S.size = n) (hp : 2 ≤ n) (h0 : ∀ h : 0 < S.size, (S[0]'h).toNat = 92) (h1 : ∀ h : 1 < S.size, (S[1]'h).toNat = 92) (hR : S.extract 2 n = T) (lim : n ≤ 1099511627776) (w : World) :
    Calls Tryd.prog 58 #[.string S, .int .u8 34] w fun e w' => e = .returned (.tuple #[.int .i32 92, .bool false, .string T, .nilIface]) ∧ Below w.heap.size w w' := by
  have hc0 := h0 (by omega)
  have hc1 := h1 (by omega)
  clear h0 h1
  go_enter Tryd.func58, Tryd.ntmps58
  go_big_wp2
  (try simp only [Exit.inBlock, Exit.then]); refine bodyPost_ret (results_tmp4 rfl _ _ _) rfl ?_
  exact ⟨rfl, Below.refl _ _⟩

set_option maxHeartbeats 1000000 in
set_option maxRecDepth 100000 in
theorem uq_esc34 (S T : ByteArray) (n : Nat) (hn : S.size = n) (hp : 2 ≤ n) (h0 : ∀ h : 0 < S.size, (S[0]'h).toNat = 92) (h1 : ∀ h : 1 < S.size, (S[1]'h).toNat = 34) (hR : S.extract 2 n = T) (lim : n ≤ 1099511627776) (w : World) :
    Calls Tryd.prog 58 #[.string S, .int .u8 34] w fun e w' => e = .returned (.tuple #[.int .i32 34, .bool false, .string T, .nilIface]) ∧ Below w.heap.size w w' := by
  have hc0 := h0 (by omega)
  have hc1 := h1 (by omega)
  clear h0 h1
  go_enter Tryd.func58, Tryd.ntmps58
  go_big_wp2
  (try simp only [Exit.inBlock, Exit.then]); refine bodyPost_ret (results_tmp4 rfl _ _ _) rfl ?_
  exact ⟨rfl, Below.refl _ _⟩
end Go.Proofs.YthjkpkkkjndjlaaDoor
