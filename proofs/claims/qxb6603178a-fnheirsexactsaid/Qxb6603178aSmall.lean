/-
  The small functions that only read slices of int32: zzNonNeg, zzAllZero, zzSame32.
-/
import Derived.Test.Qxb6603178aRows
import Derived.Test.Qxb6603178aPlain2
import Derived.WalkKit
import Derived.WalkSpells
import Derived.WalkLawsBesides
import Derived.Deep.QuietTactic
import Derived.BigQuiet
namespace Go.Proofs.Qxb6603178a.Hw
open Go.RowKit

/-- A slice of int32 as a walk is told of it: it is empty, or its elements lie in a row. -/
def Row (w : World) (a : Option Addr) (len : Nat) (f : Nat → Int) : Prop :=
  len = 0 ∨ ∃ b off, a = some ⟨b, off, none⟩ ∧ (∀ j, j < len → w.cell? ⟨b, off + j, none⟩ = some (.int .i32 (f j))) ∧ ∀ j, j < len → -2147483648 ≤ f j ∧ f j ≤ 2147483647

/-- A call's end that is a bool of which p holds. -/
def OutB (p : Bool → Prop) (e : Ending) : Prop := ∃ r, e = .returned (.bool r) ∧ p r
theorem OutB.mk {p : Bool → Prop} {r : Bool} (h : p r) : OutB p (.returned (.bool r)) := ⟨r, rfl, h⟩

/-- What a yes of zzNonNeg says. -/
def SaysNonNeg (len : Nat) (f : Nat → Int) (r : Bool) : Prop := r = true → ∀ j, j < len → 0 ≤ f j
/-- What zzAllZero says. -/
def SaysZero (len : Nat) (f : Nat → Int) (r : Bool) : Prop := r = true ↔ ∀ j, j < len → f j = 0
/-- What zzSame32 says, where the lengths are one. -/
def SaysSame (len : Nat) (f g : Nat → Int) (r : Bool) : Prop := r = true ↔ ∀ j, j < len → f j = g j

set_option maxHeartbeats 400000 in
theorem nonNeg (a : Option Addr) (len cap : Nat) (f : Nat → Int) (w : World) (hl : len ≤ 1048576) (hr : Row w a len f) :
    Calls Try.prog 21 #[.slice a len cap] w fun e w' => OutB (SaysNonNeg len f) e ∧ w = w' := by
  rcases hr with rfl | ⟨b, off, rfl, hc, hb⟩
  · go_enter Try.func21, Try.ntmps21
    go_wp2
    go_loop [3] (fun i => i = .int .i64 0) (fun _ => 0)
    case atStart => rfl
    case round =>
      subst hrel
      go_wp2
      go_ret
      exact ⟨.mk fun _ j hj => by omega, rfl⟩
  · go_enter Try.func21, Try.ntmps21
    go_wp2
    go_loop [3] (fun i => ∃ k : Nat, k ≤ len ∧ i = .int .i64 k ∧ ∀ j, j < k → 0 ≤ f j) (fun i => len - (intOf i).toNat)
    case atStart => exact ⟨0, by omega, rfl, fun j h => by omega⟩
    case round =>
      obtain ⟨k, hk, rfl, hj⟩ := hrel
      have HJ : Hid (∀ j, j < k → 0 ≤ f j) := hj
      clear hj
      by_cases hlt : k < len
      · have hcell := hc k hlt
        have hbd := hb k hlt
        clear hc hb
        by_cases hn : f k < 0
        · go_wp2
          go_ret
          exact ⟨.mk (fun h => by cases h), rfl⟩
        · go_wp2
          go_round
          case rel =>
            refine ⟨k + 1, by omega, by go_num, fun j hj => ?_⟩
            by_cases e : j = k
            · subst e; omega
            · exact HJ.out j (by omega)
          case measure => simp [intOf]; omega
      · clear hc hb
        go_wp2
        go_ret
        exact ⟨.mk (fun _ j hj => HJ.out j (by omega)), rfl⟩

set_option maxHeartbeats 400000 in
theorem allZero (a : Option Addr) (len cap : Nat) (f : Nat → Int) (w : World) (hl : len ≤ 1048576) (hr : Row w a len f) :
    Calls Try.prog 22 #[.slice a len cap] w fun e w' => OutB (SaysZero len f) e ∧ w = w' := by
  rcases hr with rfl | ⟨b, off, rfl, hc, hb⟩
  · go_enter Try.func22, Try.ntmps22
    go_wp2
    go_loop [3] (fun i => i = .int .i64 0) (fun _ => 0)
    case atStart => rfl
    case round =>
      subst hrel
      go_wp2
      go_ret
      exact ⟨.mk ⟨fun _ j hj => by omega, fun _ => rfl⟩, rfl⟩
  · go_enter Try.func22, Try.ntmps22
    go_wp2
    go_loop [3] (fun i => ∃ k : Nat, k ≤ len ∧ i = .int .i64 k ∧ ∀ j, j < k → f j = 0) (fun i => len - (intOf i).toNat)
    case atStart => exact ⟨0, by omega, rfl, fun j h => by omega⟩
    case round =>
      obtain ⟨k, hk, rfl, hj⟩ := hrel
      have HJ : Hid (∀ j, j < k → f j = 0) := hj
      clear hj
      by_cases hlt : k < len
      · have hcell := hc k hlt
        clear hc hb
        by_cases hn : f k = 0
        · have HN : Hid (f k = 0) := hn
          have hn' : (f k != 0) = false := by simp [hn]
          clear hn
          go_wp2
          go_round
          case rel =>
            refine ⟨k + 1, by omega, by go_num, fun j hj => ?_⟩
            by_cases e : j = k
            · subst e; exact HN.out
            · exact HJ.out j (by omega)
          case measure => simp [intOf]; omega
        · have HN : Hid (¬ f k = 0) := hn
          have hn' : (f k != 0) = true := by simp [hn]
          clear hn
          go_wp2
          go_ret
          exact ⟨.mk ⟨(fun h => by cases h), fun h => absurd (h k hlt) HN.out⟩, rfl⟩
      · clear hc hb
        go_wp2
        go_ret
        exact ⟨.mk ⟨fun _ j hj => HJ.out j (by omega), fun _ => rfl⟩, rfl⟩

set_option maxHeartbeats 400000 in
theorem same (a a' : Option Addr) (len cap cap' : Nat) (f g : Nat → Int) (w : World) (hl : len ≤ 1048576) (hr : Row w a len f) (hr' : Row w a' len g) :
    Calls Try.prog 13 #[.slice a len cap, .slice a' len cap'] w fun e w' => OutB (SaysSame len f g) e ∧ ∃ n, w' = w.drewN n := by
  rcases hr with rfl | ⟨b, off, rfl, hc, hb⟩
  · go_enter Try.func13, Try.ntmps13
    go_wp2
    go_loop [5] (fun i => i = .int .i64 0) (fun _ => 0)
    case atStart => rfl
    case round =>
      subst hrel
      go_wp2
      go_ret
      exact ⟨.mk ⟨fun _ j hj => by omega, fun _ => rfl⟩, 0, rfl⟩
  · rcases hr' with rfl | ⟨b', off', rfl, hc', hb'⟩
    · go_enter Try.func13, Try.ntmps13
      go_wp2
      go_loop [5] (fun i => i = .int .i64 0) (fun _ => 0)
      case atStart => rfl
      case round =>
        subst hrel
        go_wp2
        go_ret
        exact ⟨.mk ⟨fun _ j hj => by omega, fun _ => rfl⟩, 0, rfl⟩
    go_enter Try.func13, Try.ntmps13
    go_wp2
    go_loopw [5] (fun i wr => ∃ k n : Nat, k ≤ len ∧ i = .int .i64 k ∧ (∀ j, j < k → f j = g j) ∧ wr = w.drewN n) (fun i _ => len - (intOf i).toNat)
    case atStart => exact ⟨0, 0, by omega, rfl, fun j h => by omega, rfl⟩
    case round =>
      obtain ⟨k, n, hk, rfl, hj, rfl⟩ := hrel
      have HJ : Hid (∀ j, j < k → f j = g j) := hj
      clear hj
      by_cases hlt : k < len
      · have hcell := hc k hlt
        have hcell' := hc' k hlt
        have h0 : (0 : Int) ≤ (k : Int) := by omega
        have h1 : (k : Int) < (len : Int) := by omega
        clear hc hb hc' hb'
        by_cases hn : f k = g k
        · have HN : Hid (f k = g k) := hn
          have hn' : (f k != g k) = false := by simp [hn]
          clear hn
          go_wp2
          go_quiet (fail)
          go_wp2
          go_roundw
          case rel =>
            refine ⟨k + 1, n + nq, by omega, by go_num, fun j hj => ?_, rfl⟩
            by_cases e : j = k
            · subst e; exact HN.out
            · exact HJ.out j (by omega)
          case measure => simp [intOf]; omega
        · have HN : Hid (¬ f k = g k) := hn
          have hn' : (f k != g k) = true := by simp [hn]
          clear hn
          go_wp2
          go_quiet (fail)
          go_wp2
          go_ret
          exact ⟨.mk ⟨(fun h => by cases h), fun h => absurd (h k hlt) HN.out⟩, n + nq, by simp⟩
      · clear hc hb hc' hb'
        go_wp2
        go_ret
        exact ⟨.mk ⟨fun _ j hj => HJ.out j (by omega), fun _ => rfl⟩, _, rfl⟩

end Go.Proofs.Qxb6603178a.Hw
