/-
  The walks of FnClassNameMatchesRunModel's callees.
-/
import Derived.Test.Qxb6603059aRows
import Derived.WalkKit
import Derived.WalkSpells
import Derived.WalkLawsBesides
namespace Go.Proofs.Qxb6603059a.Cn
open Go.RowKit

/-- An ASCII letter, as a number. -/
def isL (n : Int) : Bool := decide ((97 ≤ n ∧ n ≤ 122) ∨ (65 ≤ n ∧ n ≤ 90))

theorem isL_yes {n : Int} (h : (97 ≤ n ∧ n ≤ 122) ∨ (65 ≤ n ∧ n ≤ 90)) : isL n = true := by simp [isL, h]
theorem isL_no {n : Int} (h : ¬ ((97 ≤ n ∧ n ≤ 122) ∨ (65 ≤ n ∧ n ≤ 90))) : isL n = false := by simp [isL, h]

set_option maxHeartbeats 400000 in
theorem letter (n : Int) (w : World) :
    Calls Try.prog 23 #[.int .u8 n] w fun e w' => e = .returned (.bool (isL n)) ∧ w = w' := by
  by_cases h1 : 97 ≤ n
  · by_cases h2 : n ≤ 122
    · rw [isL_yes (by omega)]
      go_enter Try.func23, Try.ntmps23
      go_wp2
      go_ret
      exact ⟨rfl, rfl⟩
    · have h3 : 65 ≤ n := by omega
      have h4 : ¬ n ≤ 90 := by omega
      rw [isL_no (by omega)]
      go_enter Try.func23, Try.ntmps23
      go_wp2
      go_ret
      exact ⟨rfl, rfl⟩
  · by_cases h3 : 65 ≤ n
    · by_cases h4 : n ≤ 90
      · rw [isL_yes (by omega)]
        go_enter Try.func23, Try.ntmps23
        go_wp2
        go_ret
        exact ⟨rfl, rfl⟩
      · rw [isL_no (by omega)]
        go_enter Try.func23, Try.ntmps23
        go_wp2
        go_ret
        exact ⟨rfl, rfl⟩
    · rw [isL_no (by omega)]
      go_enter Try.func23, Try.ntmps23
      go_wp2
      go_ret
      exact ⟨rfl, rfl⟩

set_option maxHeartbeats 400000 in
theorem alpha (n : Int) (w : World) :
    Calls Try.prog 27 #[.int .i32 n] w fun e w' => e = .returned (.bool (isL n)) ∧ w = w' := by
  by_cases h1 : 97 ≤ n
  · by_cases h2 : n ≤ 122
    · rw [isL_yes (by omega)]
      go_enter Try.func27, Try.ntmps27
      go_wp2
      go_ret
      exact ⟨rfl, rfl⟩
    · have h3 : 65 ≤ n := by omega
      have h4 : ¬ n ≤ 90 := by omega
      rw [isL_no (by omega)]
      go_enter Try.func27, Try.ntmps27
      go_wp2
      go_ret
      exact ⟨rfl, rfl⟩
  · by_cases h3 : 65 ≤ n
    · by_cases h4 : n ≤ 90
      · rw [isL_yes (by omega)]
        go_enter Try.func27, Try.ntmps27
        go_wp2
        go_ret
        exact ⟨rfl, rfl⟩
      · rw [isL_no (by omega)]
        go_enter Try.func27, Try.ntmps27
        go_wp2
        go_ret
        exact ⟨rfl, rfl⟩
    · rw [isL_no (by omega)]
      go_enter Try.func27, Try.ntmps27
      go_wp2
      go_ret
      exact ⟨rfl, rfl⟩

set_option maxHeartbeats 400000 in
theorem bytesYes (s : ByteArray) (w : World) (h : s.size ≤ 1048576) :
    Calls Try.prog 13 #[.string s] w fun e w' => e = .returned (.bool true) ∧ w = w' := by
  have h1 : (s.size : Int) ≤ 1048576 := by omega
  go_enter Try.func13, Try.ntmps13
  go_wp2
  go_ret
  exact ⟨rfl, rfl⟩

set_option maxHeartbeats 400000 in
theorem bytesNo (s : ByteArray) (w : World) (h : 1048576 < s.size) :
    Calls Try.prog 13 #[.string s] w fun e w' => e = .returned (.bool false) ∧ w = w' := by
  have h1 : (1048576 : Int) < (s.size : Int) := by omega
  go_enter Try.func13, Try.ntmps13
  go_wp2
  go_ret
  exact ⟨rfl, rfl⟩

end Go.Proofs.Qxb6603059a.Cn
