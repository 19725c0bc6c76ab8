/-
  zzBytes of both laws: some bool comes back, nothing else.
-/
import Derived.Test.Qxb6603356aRows
import Derived.WalkKit
import Derived.WalkSpells
import Derived.WalkLawsBesides
namespace Go.Proofs.Qxb6603356a.Rs
open Go.RowKit

/-- A call's end that is some bool. -/
def AnyB (e : Ending) : Prop := ∃ r, e = .returned (.bool r)

set_option maxHeartbeats 1000000 in
theorem bytesP (a0 a1 a2 a3 : ByteArray) (b : Bool) (w : World) :
    Calls Try.prog 26 #[.string a0, .string a1, .string a2, .string a3, .bool b] w fun e w' => AnyB e ∧ w = w' := by
  go_enter Try.func26, Try.ntmps26
  go_wp2
  all_goals
    go_ret
    exact ⟨⟨_, rfl⟩, rfl⟩

set_option maxHeartbeats 2000000 in
theorem bytesS (a0 a1 a2 a3 a5 a6 a7 a8 : ByteArray) (b c : Bool) (w : World) :
    Calls Try.prog 24 #[.string a0, .string a1, .string a2, .string a3, .bool b, .string a5, .string a6, .string a7, .string a8, .bool c] w fun e w' => AnyB e ∧ w = w' := by
  go_enter Try.func24, Try.ntmps24
  go_wp2
  all_goals
    go_ret
    exact ⟨⟨_, rfl⟩, rfl⟩

end Go.Proofs.Qxb6603356a.Rs
