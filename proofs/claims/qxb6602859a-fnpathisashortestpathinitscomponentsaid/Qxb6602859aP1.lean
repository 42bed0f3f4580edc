import Derived.Test.Qxb6602859aRows
import Derived.Test.Qxb6602859aKit
import Derived.BigRegion
import Derived.BigQuiet
import Derived.Deep.QuietTactic
import Derived.Deep.RegionWith
import Derived.Deep.LoopGhost
import Derived.Deep.CutRange
namespace Go.Proofs.Qxb6602859a
open Go.RowKit Kit
set_option linter.unusedVariables false

def RetB (e : Ending) : Prop := ∃ r : Bool, e = .returned (.bool r)

set_option maxHeartbeats 400000 in
theorem zz20_any (a0 a2 a3 a4 a5 a6 : Option Addr) (n0 n2 n3 n4 n5 n6 c0 c2 c3 c4 c5 c6 : Nat) (z : Int) (w : World) :
    Calls Try.prog 20 #[.slice a0 n0 c0, .int .i64 z, .slice a2 n2 c2, .slice a3 n3 c3, .slice a4 n4 c4, .slice a5 n5 c5, .slice a6 n6 c6] w fun e w' => RetB e ∧ w' = w := by
  go_enter Try.func20, Try.ntmps20
  go_wp2
  all_goals
    go_ret
    exact ⟨⟨_, rfl⟩, rfl⟩

end Go.Proofs.Qxb6602859a
