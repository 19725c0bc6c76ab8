/-
  zzCoversFit; zzBytes of both laws.
-/
import Derived.Test.Qxb6603178aClone2
namespace Go.Proofs.Qxb6603178a.Hw
open Go.RowKit

/-- A call's end that is some bool. -/
def AnyB (e : Ending) : Prop := ∃ r, e = .returned (.bool r)

set_option maxHeartbeats 400000 in
theorem coversFit (n : Int) (a : Option Addr) (len cap : Nat) (w : World) (hl : len ≤ 1048576) (hr : Rows2 w a len) :
    Calls Try.prog 17 #[.int .i64 n, .slice a len cap] w fun e w' => AnyB e ∧ w = w' := by
  by_cases h16 : len ≤ 65536
  · rcases hr with h0 | ⟨b, off, rfl, hc⟩
    · have h1 : len ≤ 0 := by omega
      clear h0
      go_enter Try.func17, Try.ntmps17
      go_wp2
      go_loop [5, 6] (fun t i => ∃ z : Int, i = .int .i64 0 ∧ t = .int .i64 z) (fun _ _ => 0)
      case atStart => exact ⟨_, rfl, rfl⟩
      case round =>
        obtain ⟨z, rfl, rfl⟩ := hrel
        go_wp2
        go_ret
        exact ⟨⟨_, rfl⟩, rfl⟩
    · go_enter Try.func17, Try.ntmps17
      go_wp2
      go_loop [5, 6] (fun t i => ∃ (k : Nat) (z : Int), k ≤ len ∧ i = .int .i64 k ∧ t = .int .i64 z) (fun _ i => len - (intOf i).toNat)
      case atStart => exact ⟨0, _, by omega, rfl, rfl⟩
      case round =>
        obtain ⟨k, z, hk, rfl, rfl⟩ := hrel
        by_cases hlt : k < len
        · obtain ⟨aj, lj, cj, h1, h2, h3, h4⟩ := hc k hlt
          clear hc h4
          by_cases hb : lj ≤ 262144
          · go_wp2
            go_round
            case rel => exact ⟨k + 1, _, by omega, by go_num, rfl⟩
            case measure => simp [intOf]; omega
          · go_wp2
            go_ret
            exact ⟨⟨_, rfl⟩, rfl⟩
        · clear hc
          go_wp2
          go_ret
          exact ⟨⟨_, rfl⟩, rfl⟩
  · go_enter Try.func17, Try.ntmps17
    go_wp2
    go_ret
    exact ⟨⟨_, rfl⟩, rfl⟩

/-- What a yes of zzBytes says. -/
def SaysFit (w : World) (l1 l2 : Nat) (a3 : Option Addr) (l3 l4 l6 l8 : Nat) (r : Bool) : Prop :=
  r = true → l1 ≤ 1048576 ∧ l2 ≤ 1048576 ∧ l3 ≤ 1048576 ∧ l4 ≤ 1048576 ∧ l6 ≤ 1048576 ∧ l8 ≤ 1048576 ∧ Max2 w a3 l3 1048576

theorem max2_zero {w : World} {a : Option Addr} {len m : Nat} (h : len = 0) : Max2 w a len m := fun _ _ j _ hj => by omega

set_option maxHeartbeats 1000000 in
theorem bytesR (d cv lv : Int) (a1 a2 a3 a4 a6 a8 : Option Addr) (l1 c1 l2 c2 l3 c3 l4 c4 l6 c6 l8 c8 : Nat) (w : World) (hr : Rows2 w a3 l3) :
    Calls Try.prog 26 #[.int .i64 d, .slice a1 l1 c1, .slice a2 l2 c2, .slice a3 l3 c3, .slice a4 l4 c4, .int .i64 cv, .slice a6 l6 c6, .int .i32 lv, .slice a8 l8 c8] w
      fun e w' => OutB (SaysFit w l1 l2 a3 l3 l4 l6 l8) e ∧ w = w' := by
  by_cases hA : l1 + l2 + l3 ≤ 1048576
  · rcases hr with h0 | ⟨b, off, rfl, hc⟩
    · have h1 : l3 ≤ 0 := by omega
      clear h0
      go_enter Try.func26, Try.ntmps26
      go_wp2
      go_loop [19, 20] (fun t i => ∃ z : Int, i = .int .i64 0 ∧ t = .int .i64 z ∧ 0 ≤ z ∧ z ≤ 1048576) (fun _ _ => 0)
      case atStart => exact ⟨_, rfl, rfl, by omega, by omega⟩
      case round =>
        obtain ⟨z, rfl, rfl, hz0, hz1⟩ := hrel
        go_wp2
        all_goals
          go_ret
          first
          | exact ⟨.mk (r := false) (fun h => by cases h), rfl⟩
          | exact ⟨.mk (fun _ => ⟨by omega, by omega, by omega, by omega, by omega, by omega, max2_zero (by omega)⟩), rfl⟩
    · go_enter Try.func26, Try.ntmps26
      go_wp2
      go_loop [19, 20] (fun t i => ∃ (k : Nat) (z : Int), k ≤ l3 ∧ i = .int .i64 k ∧ t = .int .i64 z ∧ 0 ≤ z ∧ z ≤ 1048576 ∧ ∀ j, j < k → ∀ aj lj cj, w.cell? ⟨b, off + j, none⟩ = some (.slice aj lj cj) → lj ≤ 1048576) (fun _ i => l3 - (intOf i).toNat)
      case atStart => exact ⟨0, _, by omega, rfl, rfl, by omega, by omega, fun j hj => by omega⟩
      case round =>
        obtain ⟨k, z, hk, rfl, rfl, hz0, hz1, hj⟩ := hrel
        have HJ : Hid (∀ j, j < k → ∀ aj lj cj, w.cell? ⟨b, off + j, none⟩ = some (.slice aj lj cj) → lj ≤ 1048576) := hj
        clear hj
        by_cases hlt : k < l3
        · obtain ⟨aj, lj, cj, h1, h2, h3, h4⟩ := hc k hlt
          have H1 : Hid (w.cell? ⟨b, off + k, none⟩ = some (.slice aj lj cj)) := h1
          clear hc h4
          by_cases hb : z + lj ≤ 1048576
          · go_wp2
            go_round
            case rel =>
              refine ⟨k + 1, _, by omega, by go_num, rfl, by omega, by omega, fun j hj aj' lj' cj' hcc => ?_⟩
              by_cases e : j = k
              · subst e
                have := H1.out
                rw [hcc] at this
                cases this
                omega
              · exact HJ.out j (by omega) _ _ _ hcc
            case measure => simp [intOf]; omega
          · go_wp2
            all_goals
              go_ret
              exact ⟨.mk (r := false) (fun h => by cases h), rfl⟩
        · clear hc
          have hM : Max2 w (some ⟨b, off, none⟩) l3 1048576 := by
            intro b' off' j e hj aj lj cj hcc
            cases e
            exact HJ.out j (by omega) aj lj cj hcc
          have HM : Hid (Max2 w (some ⟨b, off, none⟩) l3 1048576) := hM
          clear hM
          go_wp2
          all_goals
            go_ret
            first
            | exact ⟨.mk (r := false) (fun h => by cases h), rfl⟩
            | exact ⟨.mk (fun _ => ⟨by omega, by omega, by omega, by omega, by omega, by omega, HM.out⟩), rfl⟩
  · clear hr
    go_enter Try.func26, Try.ntmps26
    go_wp2
    all_goals
      go_ret
      exact ⟨.mk (r := false) (fun h => by cases h), rfl⟩

end Go.Proofs.Qxb6603178a.Hw
