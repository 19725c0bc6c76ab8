/-
  lcpB1, lcsB1.
-/
import Derived.Test.Qxb6603356aRows
import Derived.WalkKit
import Derived.WalkSpells
import Derived.WalkLawsBesides
import Derived.Deep.QuietTactic
import Derived.BigQuiet
namespace Go.Proofs.Qxb6603356a.Sp
open Go.RowKit

/-- The byte at place k, as a number; -1 beyond the end. -/
def at_ (s : ByteArray) (k : Nat) : Int := if h : k < s.size then (s[k].toNat : Int) else -1
theorem at_eq {s : ByteArray} {k : Nat} (h : k < s.size) : at_ s k = (s[k].toNat : Int) := by simp [at_, h]

/-- m is no less than any common head, no more than either length. -/
def Pre (x y : ByteArray) (m : Nat) : Prop := m ≤ x.size ∧ m ≤ y.size ∧ ∀ K, K ≤ x.size → K ≤ y.size → (∀ i, i < K → at_ x i = at_ y i) → K ≤ m
/-- .. common tail. -/
def Suf (x y : ByteArray) (m : Nat) : Prop := m ≤ x.size ∧ m ≤ y.size ∧ ∀ K, K ≤ x.size → K ≤ y.size → (∀ i, i < K → at_ x (x.size - 1 - i) = at_ y (y.size - 1 - i)) → K ≤ m

def OutN (p : Nat → Prop) (e : Ending) : Prop := ∃ m : Nat, e = .returned (.int .i64 m) ∧ p m

set_option maxHeartbeats 1000000 in
theorem lcp (x y : ByteArray) (w : World) (hx : x.size ≤ 1048576) :
    Calls Try.prog 28 #[.string x, .string y] w fun e w' => OutN (Pre x y) e ∧ ∃ n, w' = w.drewN n := by
  go_enter Try.func28, Try.ntmps28
  go_wp2
  go_loopw [5] (fun i wr => ∃ m n : Nat, m ≤ x.size ∧ m ≤ y.size ∧ i = .int .i64 m ∧ wr = w.drewN n) (fun i _ => x.size - (intOf i).toNat)
  case atStart => exact ⟨0, 0, by omega, by omega, rfl, rfl⟩
  case round =>
    obtain ⟨m, n, hm1, hm2, rfl, rfl⟩ := hrel
    by_cases h1 : m < x.size
    · by_cases h2 : m < y.size
      · have j0 : (0 : Int) ≤ (m : Int) := by omega
        have j1 : (m : Int) < (x.size : Int) := by omega
        have j2 : (m : Int) < (y.size : Int) := by omega
        by_cases h3 : at_ x m = at_ y m
        · rw [at_eq h1, at_eq h2] at h3
          have hb : ((x[m].toNat : Int) == (y[m].toNat : Int)) = true := by simp [h3]
          clear h3
          go_wp2
          go_quiet (fail)
          go_wp2
          go_roundw
          case rel => exact ⟨m + 1, n + nq, by omega, by omega, by go_num, by simp⟩
          case measure => simp [intOf]; omega
        · have HP : Hid (Pre x y m) := ⟨hm1, hm2, fun K a b c => by
            refine Classical.byContradiction fun hlt => ?_
            exact h3 (c m (by omega))⟩
          rw [at_eq h1, at_eq h2] at h3
          have hb : ((x[m].toNat : Int) == (y[m].toNat : Int)) = false := by rw [beq_eq_false_iff_ne]; exact h3
          clear h3
          go_wp2
          go_quiet (fail)
          go_wp2
          go_ret
          exact ⟨⟨m, rfl, HP.out⟩, n + nq, by simp⟩
      · have HP : Hid (Pre x y m) := ⟨hm1, hm2, fun K a b c => by omega⟩
        have hd : decide ((m : Int) < (y.size : Int)) = false := by simp; omega
        have hd1 : decide ((m : Int) < (x.size : Int)) = true := by simp; omega
        go_wp2
        go_quiet (fail)
        go_wp2
        go_ret
        exact ⟨⟨m, rfl, HP.out⟩, n + nq, by simp⟩
    · have HP : Hid (Pre x y m) := ⟨hm1, hm2, fun K a b c => by omega⟩
      have hd : decide ((m : Int) < (x.size : Int)) = false := by simp; omega
      go_wp2
      go_quiet (fail)
      go_wp2
      go_ret
      exact ⟨⟨m, rfl, HP.out⟩, n + nq, by simp⟩

set_option maxHeartbeats 1000000 in
theorem lcs (x y : ByteArray) (w : World) (hx : x.size ≤ 1048576) (hy : y.size ≤ 1048576) :
    Calls Try.prog 29 #[.string x, .string y] w fun e w' => OutN (Suf x y) e ∧ ∃ n, w' = w.drewN n := by
  go_enter Try.func29, Try.ntmps29
  go_wp2
  go_loopw [5] (fun i wr => ∃ m n : Nat, m ≤ x.size ∧ m ≤ y.size ∧ i = .int .i64 m ∧ wr = w.drewN n) (fun i _ => x.size - (intOf i).toNat)
  case atStart => exact ⟨0, 0, by omega, by omega, rfl, rfl⟩
  case round =>
    obtain ⟨m, n, hm1, hm2, rfl, rfl⟩ := hrel
    by_cases h1 : m < x.size
    · by_cases h2 : m < y.size
      · have j0 : (0 : Int) ≤ (m : Int) := by omega
        have j1 : (m : Int) < (x.size : Int) := by omega
        have j2 : (m : Int) < (y.size : Int) := by omega
        obtain ⟨p, hp⟩ : ∃ p, p = x.size - 1 - m := ⟨_, rfl⟩
        obtain ⟨q, hq⟩ : ∃ q, q = y.size - 1 - m := ⟨_, rfl⟩
        have k1 : p < x.size := by omega
        have k2 : q < y.size := by omega
        have w1 : IntKind.i64.wrap ((x.size : Int) - 1) = (x.size : Int) - 1 := by rw [IntKind.wrap_i64]; omega
        have w2 : IntKind.i64.wrap ((x.size : Int) - 1 - (m : Int)) = (p : Int) := by rw [IntKind.wrap_i64]; omega
        have w3 : IntKind.i64.wrap ((y.size : Int) - 1) = (y.size : Int) - 1 := by rw [IntKind.wrap_i64]; omega
        have w4 : IntKind.i64.wrap ((y.size : Int) - 1 - (m : Int)) = (q : Int) := by rw [IntKind.wrap_i64]; omega
        have j3 : (0 : Int) ≤ (p : Int) := by omega
        have j4 : (p : Int) < (x.size : Int) := by omega
        have j5 : (0 : Int) ≤ (q : Int) := by omega
        have j6 : (q : Int) < (y.size : Int) := by omega
        by_cases h3 : at_ x p = at_ y q
        · rw [at_eq k1, at_eq k2] at h3
          have hb : ((x[p].toNat : Int) == (y[q].toNat : Int)) = true := by simp [h3]
          clear h3 hp hq
          go_wp2
          go_quiet (fail)
          go_wp2
          go_roundw
          case rel => exact ⟨m + 1, n + nq, by omega, by omega, by go_num, by simp⟩
          case measure => simp [intOf]; omega
        · have HP : Hid (Suf x y m) := ⟨hm1, hm2, fun K a b c => by
            refine Classical.byContradiction fun hlt => ?_
            have h := c m (by omega)
            rw [← hp, ← hq] at h
            exact h3 h⟩
          rw [at_eq k1, at_eq k2] at h3
          have hb : ((x[p].toNat : Int) == (y[q].toNat : Int)) = false := by rw [beq_eq_false_iff_ne]; exact h3
          clear h3 hp hq
          go_wp2
          go_quiet (fail)
          go_wp2
          go_ret
          exact ⟨⟨m, rfl, HP.out⟩, n + nq, by simp⟩
      · have HP : Hid (Suf x y m) := ⟨hm1, hm2, fun K a b c => by omega⟩
        have hd : decide ((m : Int) < (y.size : Int)) = false := by simp; omega
        have hd1 : decide ((m : Int) < (x.size : Int)) = true := by simp; omega
        go_wp2
        go_quiet (fail)
        go_wp2
        go_ret
        exact ⟨⟨m, rfl, HP.out⟩, n + nq, by simp⟩
    · have HP : Hid (Suf x y m) := ⟨hm1, hm2, fun K a b c => by omega⟩
      have hd : decide ((m : Int) < (x.size : Int)) = false := by simp; omega
      go_wp2
      go_quiet (fail)
      go_wp2
      go_ret
      exact ⟨⟨m, rfl, HP.out⟩, n + nq, by simp⟩

end Go.Proofs.Qxb6603356a.Sp
