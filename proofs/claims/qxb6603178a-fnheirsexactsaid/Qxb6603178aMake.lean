/-
  ZZMakeCube.
-/
import Derived.Test.Qxb6603178aMem
namespace Go.Proofs.Qxb6603178a.Hw
open Go.RowKit

set_option maxHeartbeats 400000 in
theorem makeCube (d cv : Int) (a1 a2 a3 a4 a6 : Option Addr) (l1 c1 l2 c2 l3 c3 l4 c4 l6 c6 : Nat) (w : World) :
    Calls Try.prog 18 #[.int .i64 d, .slice a1 l1 c1, .slice a2 l2 c2, .slice a3 l3 c3, .slice a4 l4 c4, .int .i64 cv, .slice a6 l6 c6] w
      fun e w' => e = .returned (.pointer (some ⟨w.heap.size, 0, none⟩)) ∧ w' = w.alloc (.cells #[.int .i64 d, .slice a1 l1 c1, .slice a2 l2 c2, .slice a3 l3 c3, .slice a4 l4 c4, .int .i64 cv, .slice a6 l6 c6] 45) := by
  go_enter Try.func18, Try.ntmps18
  go_wp2
  go_ret
  exact ⟨rfl, rfl⟩

end Go.Proofs.Qxb6603178a.Hw
