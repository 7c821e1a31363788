/- The byte's row in the table of types. -/
import Derived.Test.YthjkpkkkjndjlaaDoorProg
import Derived.KernelRfl
import Derived.Lib.BufSteps
namespace Go.Proofs.YthjkpkkkjndjlaaDoor
theorem infoU8 : (Tryd.prog.info? 5).map (fun i => (i.zero, i.size, i.bytes)) = some (some (.int .u8 0), 1, 1) := by kernel_rfl
/-- It returns a buffer of its own that holds just these cells. -/
def BufPost (B : Nat) (W0 : World) (l : List Value) (e : Ending) (w' : World) : Prop := ∃ v', e = .returned v' ∧ Lib.OwnBuf B 5 v' l.length l W0 w'
end Go.Proofs.YthjkpkkkjndjlaaDoor
