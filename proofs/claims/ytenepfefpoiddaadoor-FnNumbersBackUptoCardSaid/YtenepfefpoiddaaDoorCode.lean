/- errors.Is at a *strconv.NumError, impl.code, strconv.ParseUint and impl.ParseUint: what is read of a text of digits. The walks of errors.Is are turned from the kit's worked text on errors.Is. -/
import Derived.Test.YtenepfefpoiddaaDoorParse
import Derived.Test.YtenepfefpoiddaaDoorEnvN
import Derived.WalkKit
import Derived.LaidEql
import Derived.Stop.Asserts
import Derived.Stop.LaidTwo
import Derived.RowKitTokens
namespace Go.Proofs.YtenepfefpoiddaaDoor
open Go.RowKit Go.Extern.Stop Go.Stop Go.Extern

theorem isTypeOf (v : Value) (w : World) : (Extern.ReflectliteType.typeOf #[.iface 108 v]).run Tryd.prog w = .ok (.iface 96 (.agg #[.pointer (some ⟨5, 108, none⟩)])) w := by kernel_rfl
theorem callComparable (w : World) : (callFunc 100 #[.agg #[.pointer (some ⟨5, 108, none⟩)]]).run Tryd.prog w = .ok (.value (.bool true)) w := by kernel_rfl
theorem isMethodComparable (v : Value) (w : World) : (Go.method 245 96 v "Comparable").run Tryd.prog w = .ok (100, v) w := by kernel_rfl
theorem isComp : (Tryd.prog.info? 108).map (·.comparable) = some true := by kernel_rfl
theorem isSize : (Tryd.prog.info? 110).map (·.size) = some 1 := by kernel_rfl
theorem noIsE (v : Value) (xT : TypeId) (w : World) : (Instr.typeAssert (.iface 108 v) xT 98 true).run Tryd.prog w = .ok (.tuple #[.nilIface, .bool false]) w := run_typeAssert_lacksB Tryd.underlying98 (by kernel_rfl) (by kernel_rfl) v xT w
theorem noUnwrapE (v : Value) (xT : TypeId) (w : World) : (Instr.typeAssert (.iface 108 v) xT 101 true).run Tryd.prog w = .ok (.tuple #[.nilIface, .bool false]) w := run_typeAssert_lacksB Tryd.underlying101 (by kernel_rfl) (by kernel_rfl) v xT w
theorem noUnwrapsE (v : Value) (xT : TypeId) (w : World) : (Instr.typeAssert (.iface 108 v) xT 103 true).run Tryd.prog w = .ok (.tuple #[.nilIface, .bool false]) w := run_typeAssert_lacksB Tryd.underlying103 (by kernel_rfl) (by kernel_rfl) v xT w
theorem noIsW (v : Value) (xT : TypeId) (w : World) : (Instr.typeAssert (.iface 77 v) xT 98 true).run Tryd.prog w = .ok (.tuple #[.nilIface, .bool false]) w := run_typeAssert_lacksB Tryd.underlying98 (by kernel_rfl) (by kernel_rfl) v xT w
theorem hasUnwrapW (v : Value) (xT : TypeId) (w : World) : (Instr.typeAssert (.iface 77 v) xT 101 true).run Tryd.prog w = .ok (.tuple #[.iface 77 v, .bool true]) w := run_typeAssert_hasB Tryd.underlying101 (by kernel_rfl) v xT w
theorem methodUnwrap (v : Value) (w : World) : (Go.method 245 77 v "Unwrap").run Tryd.prog w = .ok (96, v) w := by kernel_rfl

set_option maxHeartbeats 4000000 in
set_option maxRecDepth 100000 in
/-- errors.Is(e, x), e a *strconv.NumError whose Err is x. -/
theorem is_num_same (pb : Nat) (b : Addr) (w : World) (h1 : w.cell? ⟨pb, 2, none⟩ = some (.iface 108 (.pointer (some b)))) :
    Calls Tryd.prog 51 #[.iface 77 (.pointer (some ⟨pb, 0, none⟩)), .iface 108 (.pointer (some b))] w fun e w' => e = .returned (.bool true) ∧ w' = w := by
  obtain ⟨i, hi, hcmp⟩ := Option.map_eq_some_iff.1 isComp
  obtain ⟨j, hj, hjs⟩ := Option.map_eq_some_iff.1 isSize
  have h8 := @run_callFunc_extern Tryd.prog 66 _ Extern.ReflectliteType.typeOf Tryd.func66 (by kernel_rfl) (by kernel_rfl) (by kernel_rfl) (by kernel_rfl)
  have h32 := callComparable
  have tT := isTypeOf
  have mR := isMethodComparable
  have nE := noIsE
  have uE := noUnwrapE
  have vE := noUnwrapsE
  have nW := noIsW
  have uW := hasUnwrapW
  have mU := methodUnwrap
  have heq := run_eql_iface_ptr_same (P := Tryd.prog) w b Tryd.underlying56 Tryd.underlying108 hi hcmp hj
  have hty := run_eql_iface_types (P := Tryd.prog) 77 108 (.pointer (some ⟨pb, 0, none⟩)) (.pointer (some b)) Tryd.underlying56 (by decide) w
  go_enter Tryd.func51, Tryd.ntmps51
  go_wp2
  refine wp_loop_rounds 2 ?_
  rw [rounds_succ]
  go_wp2
  rw [rounds_succ]
  go_wp2
  go_ret
  exact ⟨rfl, rfl⟩

set_option maxHeartbeats 4000000 in
set_option maxRecDepth 100000 in
/-- errors.Is(e, x), e a *strconv.NumError whose Err is another error of errors.New's make. -/
theorem is_num_other (pb : Nat) (b a : Addr) (ca cb : Array Value) (ta tb : TypeId) (w : World) (h1 : w.cell? ⟨pb, 2, none⟩ = some (.iface 108 (.pointer (some a)))) (hne : a ≠ b) (ha : w.heap[a.block]? = some (.cells ca ta (0, 0))) (hb : w.heap[b.block]? = some (.cells cb tb (0, 0))) :
    Calls Tryd.prog 51 #[.iface 77 (.pointer (some ⟨pb, 0, none⟩)), .iface 108 (.pointer (some b))] w fun e w' => e = .returned (.bool false) ∧ w' = w := by
  obtain ⟨i, hi, hcmp⟩ := Option.map_eq_some_iff.1 isComp
  obtain ⟨j, hj, hjs⟩ := Option.map_eq_some_iff.1 isSize
  have h8 := @run_callFunc_extern Tryd.prog 66 _ Extern.ReflectliteType.typeOf Tryd.func66 (by kernel_rfl) (by kernel_rfl) (by kernel_rfl) (by kernel_rfl)
  have h32 := callComparable
  have tT := isTypeOf
  have mR := isMethodComparable
  have nE := noIsE
  have uE := noUnwrapE
  have vE := noUnwrapsE
  have nW := noIsW
  have uW := hasUnwrapW
  have mU := methodUnwrap
  have heq := run_eql_iface_ptr_other (P := Tryd.prog) w Tryd.underlying56 Tryd.underlying108 hi hcmp hj (by rw [hjs]; decide) hne ha hb
  have hty := run_eql_iface_types (P := Tryd.prog) 77 108 (.pointer (some ⟨pb, 0, none⟩)) (.pointer (some b)) Tryd.underlying56 (by decide) w
  go_enter Tryd.func51, Tryd.ntmps51
  go_wp2
  refine wp_loop_rounds 2 ?_
  rw [rounds_succ]
  go_wp2
  rw [rounds_succ]
  go_wp2
  go_ret
  exact ⟨rfl, rfl⟩



/-- The two sentinels ay the row lays them. -/
structure Errs (ar ay : Addr) (w : World) : Prop where
  vr : w.cell? ⟨1, 0, none⟩ = some (.iface 108 (.pointer (some ar)))
  vs : w.cell? ⟨0, 0, none⟩ = some (.iface 108 (.pointer (some ay)))
  ne : ar ≠ ay
  hr : ∃ c t, w.heap[ar.block]? = some (.cells c t (0, 0))
  hs : ∃ c t, w.heap[ay.block]? = some (.cells c t (0, 0))

theorem lt_of_heap {w : World} {k : Nat} {o : Obj} (h : w.heap[k]? = some o) : k < w.heap.size := by
  rcases Nat.lt_or_ge k w.heap.size with h' | h'
  · exact h'
  · rw [Array.getElem?_eq_none h'] at h; exact absurd h (by simp)

theorem Errs.on {ar ay : Addr} {w w' : World} (h : Errs ar ay w) (hb : Below w.heap.size w w') : Errs ar ay w' := by
  obtain ⟨h1, h2, h3, ⟨c, t, h4⟩, ⟨c', t', h5⟩⟩ := h
  refine ⟨(hb.cell (p := ⟨1, 0, none⟩) (Lib.lt_of_cell h1)).trans h1, (hb.cell (p := ⟨0, 0, none⟩) (Lib.lt_of_cell h2)).trans h2, h3, ⟨c, t, ?_⟩, ⟨c', t', ?_⟩⟩
  · exact (hb.block _ (lt_of_heap h4)).trans h4
  · exact (hb.block _ (lt_of_heap h5)).trans h5

theorem code_nil (w : World) : Calls Tryd.prog 41 #[.nilIface] w fun e w' => e = .returned (.int .i64 0) ∧ w = w' := by
  go_enter Tryd.func41, Tryd.ntmps41
  go_wp2
  go_ret
  exact ⟨rfl, rfl⟩

set_option maxRecDepth 100000 in
theorem code_syntax (pb : Nat) (ar ay : Addr) (w : World) (hE : Errs ar ay w) (h1 : w.cell? ⟨pb, 2, none⟩ = some (.iface 108 (.pointer (some ay)))) :
    Calls Tryd.prog 41 #[.iface 77 (.pointer (some ⟨pb, 0, none⟩))] w fun e w' => e = .returned (.int .i64 1) ∧ w = w' := by
  have hvs := hE.vs
  go_enter Tryd.func41, Tryd.ntmps41
  go_wp2_with (go_at_call 51; refine (is_num_same pb ay _ h1).mono ?_; rintro e w' ⟨rfl, rfl⟩)
  go_ret
  exact ⟨rfl, rfl⟩

set_option maxRecDepth 100000 in
theorem code_range (pb : Nat) (ar ay : Addr) (w : World) (hE : Errs ar ay w) (h1 : w.cell? ⟨pb, 2, none⟩ = some (.iface 108 (.pointer (some ar)))) :
    Calls Tryd.prog 41 #[.iface 77 (.pointer (some ⟨pb, 0, none⟩))] w fun e w' => e = .returned (.int .i64 2) ∧ w = w' := by
  have hvs := hE.vs
  have hvr := hE.vr
  obtain ⟨c, t, h4⟩ := hE.hr
  obtain ⟨c', t', h5⟩ := hE.hs
  have hne := hE.ne
  have A1 := Lib.hid (is_num_other pb ay ar c c' t t' w h1 hne h4 h5)
  have A2 := Lib.hid (is_num_same pb ar w h1)
  clear h4 h5 hne
  go_enter Tryd.func41, Tryd.ntmps41
  go_wp2_with (go_at_call 51; refine A1.out.mono ?_; rintro e w' ⟨rfl, rfl⟩; refine Hid.out ?_)
  refine Lib.hid ?_
  clear hvs A1
  go_wp2_with (go_at_call 51; refine A2.out.mono ?_; rintro e w' ⟨rfl, rfl⟩)
  go_ret
  exact ⟨rfl, rfl⟩

/-- What impl.ParseUint hands back. -/
def uintOut (b : Nat) (ds : List Nat) : Value := if val b ds < 18446744073709551616 then .tuple #[.int .u64 (val b ds : Nat), .int .i64 0] else .tuple #[.int .u64 18446744073709551615, .int .i64 2]

set_option maxRecDepth 100000 in
theorem sParseUint_ok (b : Nat) (ds : List Nat) (hb : 2 ≤ b) (hb2 : b ≤ 36) (hbd : ∀ d ∈ ds, d < b) (hne : ds ≠ []) (hlen : ds.length ≤ 9223372036854775806) (h : val b ds < 18446744073709551616) (w : World) :
   Calls Tryd.prog 40 #[.string (bs (ds.map dch)), .int .i64 b, .int .i64 64] w fun e w' => e = .returned (.tuple #[.int .u64 (val b ds : Nat), .nilIface]) ∧ Below w.heap.size w w' := by
 have hI := iParseUint b ds hb hb2 hbd hne hlen w
 rw [numEnd, if_pos h] at hI
 have HI := Lib.hid hI
 clear hI
 generalize val b ds = V at *
 go_enter Tryd.func40, Tryd.ntmps40
 go_wp2_with (go_at_call 49; refine HI.out.mono ?_; rintro e w' ⟨rfl, hw⟩; simp only [Lib.uintTuple])
 go_ret2
 exact ⟨rfl, hw⟩

set_option maxRecDepth 100000 in
theorem sParseUint_range (b : Nat) (ds : List Nat) (hb : 2 ≤ b) (hb2 : b ≤ 36) (hbd : ∀ d ∈ ds, d < b) (hne : ds ≠ []) (hlen : ds.length ≤ 281474976710656) (h : ¬ val b ds < 18446744073709551616) (ar ay : Addr) (w : World) (hE : Errs ar ay w) :
   Calls Tryd.prog 40 #[.string (bs (ds.map dch)), .int .i64 b, .int .i64 64] w fun e w' => ∃ N, e = .returned (.tuple #[.int .u64 18446744073709551615, .iface 77 (.pointer (some ⟨N, 0, none⟩))]) ∧ w.heap.size ≤ N ∧ w'.cell? ⟨N, 2, none⟩ = some (.iface 108 (.pointer (some ar))) ∧ Below w.heap.size w w' := by
 have hI := iParseUint b ds hb hb2 hbd hne (by omega) w
 rw [numEnd, if_neg h] at hI
 have HI := Lib.hid hI
 clear hI h hbd
 have hsz : (bs (ds.map dch)).size ≤ 281474976710656 := by rw [bs_size, List.length_map]; exact hlen
 generalize bs (ds.map dch) = s at *
 go_enter Tryd.func40, Tryd.ntmps40
 go_wp2_with (go_at_call 49; refine HI.out.mono ?_; rintro e w1 ⟨rfl, hw⟩; simp only [Lib.uintTuple]; refine Hid.out ?_)
 refine Lib.hid ?_
 have hE1 := hE.on hw
 have hv1 := hE1.vr
 go_wp2_with (go_at_call 50; refine (Tryd.strconv_toError_range _ s _ _ _ _ hsz hv1 (Or.inr ⟨_, _, rfl⟩)).mono ?_; rintro e w2 ⟨N, rfl, hN, hc, hw2⟩)
 go_ret2
 refine ⟨N, rfl, Nat.le_trans hw.size hN, ?_, hw.trans (hw2.mono hw.size)⟩
 simp [World.cell?, hc]

set_option maxRecDepth 100000 in
/-- impl.ParseUint at a text of digits. -/
theorem ParseUint_any (b : Nat) (ds : List Nat) (hb : 2 ≤ b) (hb2 : b ≤ 36) (hbd : ∀ d ∈ ds, d < b) (hne : ds ≠ []) (hlen : ds.length ≤ 281474976710656) (ar ay : Addr) (w : World) (hE : Errs ar ay w) :
   Calls Tryd.prog 23 #[.string (bs (ds.map dch)), .int .i64 b, .int .i64 64] w fun e w' => e = .returned (uintOut b ds) ∧ Below w.heap.size w w' := by
 by_cases h : val b ds < 18446744073709551616
 · have HI := Lib.hid (sParseUint_ok b ds hb hb2 hbd hne (by omega) h w)
   rw [uintOut, if_pos h]
   generalize val b ds = V at *
   go_enter Tryd.func23, Tryd.ntmps23
   go_wp2_with (first | (go_at_call 40; refine HI.out.mono ?_; rintro e w' ⟨rfl, hw⟩) | (go_at_call 41; refine (code_nil _).mono ?_; rintro e w' ⟨rfl, rfl⟩))
   go_ret2
   exact ⟨rfl, hw⟩
 · have HI := Lib.hid (sParseUint_range b ds hb hb2 hbd hne hlen h ar ay w hE)
   rw [uintOut, if_neg h]
   clear h hbd
   go_enter Tryd.func23, Tryd.ntmps23
   go_wp2_with (go_at_call 40; refine HI.out.mono ?_; rintro e w1 ⟨N, rfl, hN, hc, hw⟩; refine Hid.out ?_)
   refine Lib.hid ?_
   have HC := Lib.hid (code_range N ar ay w1 (hE.on hw) hc)
   go_wp2_with (go_at_call 41; refine HC.out.mono ?_; rintro e w' ⟨rfl, rfl⟩)
   go_ret2
   exact ⟨rfl, hw⟩
end Go.Proofs.YtenepfefpoiddaaDoor
