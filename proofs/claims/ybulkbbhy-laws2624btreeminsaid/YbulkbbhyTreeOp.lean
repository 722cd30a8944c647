/-
  trigrove.zzs2624bop (function 12) BY ITS CONTRACT.
-/
import Derived.Test.YbulkbbhyRows
import Derived.WalkKit
import Derived.WalkSpells
namespace Go.Proofs.Ybulkbbhy.Tree
open Go.RowKit

def opOf (k : Int) : Int := if k % 4 = 0 then 17 else if k % 4 = 1 then 18 else if k % 4 = 2 then 3 else 14

set_option maxHeartbeats 400000 in
theorem op_any (k : Int) (w : World) (h0 : 0 ≤ k) (h1 : k ≤ 255) :
    Calls Yba.prog 12 #[.int .u8 k] w fun e w' => e = .returned (.int .u8 (opOf k)) ∧ w = w' := by
  go_enter Yba.func12, Yba.ntmps12
  go_wp2
  all_goals go_ret
  all_goals exact ⟨by simp_all [opOf], rfl⟩
end Go.Proofs.Ybulkbbhy.Tree
