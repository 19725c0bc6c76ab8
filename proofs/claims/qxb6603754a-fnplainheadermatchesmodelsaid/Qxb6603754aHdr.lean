/-
  plainHeader.
-/
import Derived.Test.Qxb6603754aWk
namespace Go.Proofs.Qxb6603754a.Hw
open Go.RowKit Hd

set_option maxHeartbeats 400000 in
theorem hdr_short (a : Option Addr) (n c : Nat) (f : Nat → Int) (kind : Int) (w : World) (hn : n < 4) :
    Calls Try.prog 16 #[.slice a n c, .int .u8 kind] w fun e w' => Out f n kind e ∧ w = w' := by
  go_enter Try.func16, Try.ntmps16
  go_wp2
  go_ret3
  exact ⟨.no (none_short hn), rfl⟩

set_option maxHeartbeats 400000 in
theorem hdr_kind (g n c : Nat) (f : Nat → Int) (kind : Int) (w : World) (hn : 4 ≤ n) (hB : Blk w g n f) (hk : ¬ f 0 = kind) :
    Calls Try.prog 16 #[.slice (some ⟨g, 0, none⟩) n c, .int .u8 kind] w fun e w' => Out f n kind e ∧ w = w' := by
  have hc0 := hB.cell (j := 0) (by omega)
  have hk' : (f 0 != kind) = true := by simp [hk]
  have HK : Hid (¬ f 0 = kind) := hk
  clear hB hk
  go_enter Try.func16, Try.ntmps16
  go_wp2
  go_ret3
  exact ⟨.no (none_kind HK.out), rfl⟩

set_option maxHeartbeats 1000000 in
theorem hdr_long (g n : Nat) (f : Nat → Int) (kind : Int) (w : World) (hn : 4 ≤ n) (hn2 : n ≤ 1048576) (hB : Blk w g n f) (hk : f 0 = kind) :
    Calls Try.prog 16 #[.slice (some ⟨g, 0, none⟩) n n, .int .u8 kind] w fun e w' => Out f n kind e ∧ w = w' := by
  have hc0 := hB.cell (j := 0) (by omega)
  have hk' : (f 0 != kind) = false := by simp [hk]
  have HK : Hid (f 0 = kind) := hk
  have HB : Hid (Blk w g n f) := hB
  have hn1 : ¬ n = 1 := by omega
  clear hB hk
  by_cases h11 : n ≤ 11
  · go_enter Try.func16, Try.ntmps16
    go_wp2
    clear hc0 hk'
    go_loop [4, 25] (fun l t => ∃ i : Nat, i ≤ n - 1 ∧ i ≤ 9 ∧ t = .int .i64 i ∧ l = .int .i64 (V f i) ∧ digits f (i + 1)) (fun _ t => 10 - (intOf t).toNat)
    case atStart => exact ⟨0, by omega, by omega, rfl, rfl, fun i a b => by omega⟩
    case round =>
      obtain ⟨i, hi, hi9, rfl, rfl, hd⟩ := hrel
      have HD : Hid (digits f (i + 1)) := hd
      have hVb := V_bd hd
      have hp9 := pow_le_9 hi9
      obtain ⟨v, hv⟩ : ∃ v, v = V f i := ⟨_, rfl⟩
      rw [← hv] at hVb ⊢
      have hV0 : 0 ≤ v := hVb.1
      have hV1 : v ≤ 1000000000 := by have := hVb.2; omega
      have HV : Hid (v = V f i) := hv
      clear hd hVb hp9 hv
      by_cases h1 : i < n - 1
      · have hcell := HB.out.cell (j := 1 + i) (by omega)
        obtain ⟨c, hc⟩ : ∃ c, c = f (i + 1) := ⟨_, rfl⟩
        rw [Nat.add_comm 1 i, ← hc, Nat.add_comm i 1] at hcell
        have HC : Hid (c = f (i + 1)) := hc
        by_cases h3 : 48 ≤ c ∧ c ≤ 57
        · by_cases h4 : i < 9
          · have HF : Hid (V f (i + 1) = v * 10 + (c - 48)) := by rw [V, ← HV.out, ← HC.out]; rfl
            have HD2 : Hid (digits f (i + 1 + 1)) := digits_snoc HD.out (by rw [← hc]; exact h3)
            obtain ⟨h31, h32⟩ := h3
            clear hc
            go_wp2
            go_round
            case rel => exact ⟨i + 1, by omega, by omega, by go_num, by rw [HF.out], HD2.out⟩
            case measure => simp [intOf]; omega
          · have HG : Hid (¬ ∃ i, Hd.Good f n kind i) := by
              have e : i = 9 := by omega
              have h := digits_snoc HD.out (by rw [← hc]; exact h3)
              rw [e] at h
              exact none_ten h
            obtain ⟨h31, h32⟩ := h3
            have t1 : (c == 13) = false := by simp; omega
            clear hc
            go_wp2
            go_ret3
            exact ⟨.no HG.out, rfl⟩
        · by_cases hg : c = 13 ∧ 2 ≤ i + 1 ∧ i + 1 + 1 < n ∧ f (i + 1 + 1) = 10
          · obtain ⟨g1, g2, g3, g4⟩ := hg
            have HG : Hid (Hd.Good f n kind (i + 1)) := ⟨g2, by omega, g3, HK.out, HD.out, by rw [← hc]; exact g1, g4⟩
            have hcell1 := HB.out.cell g3
            have t1 : (c == 13) = true := by simp [g1]
            have t2 : (f (i + 1 + 1) == 10) = true := by simp [g4]
            have t3 : c < 48 := by omega
            have g2' : 0 < i := by omega
            clear hc h3 g1 g4
            go_wp2
            go_ret3
            exact ⟨.yes HG.out (by exact HV.out) (by omega), rfl⟩
          · have HG : Hid (¬ ∃ i, Hd.Good f n kind i) := none_at HD.out (by omega) (by rw [← hc]; exact h3) (by rw [← hc]; exact hg)
            by_cases q1 : c = 13
            · have t1 : (c == 13) = true := by simp [q1]
              have t3 : c < 48 := by omega
              by_cases q2 : 0 < i
              · by_cases q3 : i + 1 + 1 < n
                · have hcell1 := HB.out.cell q3
                  have t2 : (f (i + 1 + 1) == 10) = false := by
                    rw [beq_eq_false_iff_ne]; exact fun e => hg ⟨q1, by omega, q3, e⟩
                  clear hc h3 hg q1
                  go_wp2
                  go_ret3
                  exact ⟨.no HG.out, rfl⟩
                · clear hc h3 hg q1
                  go_wp2
                  go_ret3
                  exact ⟨.no HG.out, rfl⟩
              · clear hc h3 hg q1
                go_wp2
                go_ret3
                exact ⟨.no HG.out, rfl⟩
            · have t1 : (c == 13) = false := by simp [q1]
              clear hc hg q1
              by_cases h31 : 48 ≤ c
              · have h32 : ¬ c ≤ 57 := fun h => h3 ⟨h31, h⟩
                clear h3
                go_wp2
                go_ret3
                exact ⟨.no HG.out, rfl⟩
              · clear h3
                go_wp2
                go_ret3
                exact ⟨.no HG.out, rfl⟩
      · have HG : Hid (¬ ∃ i, Hd.Good f n kind i) := by
          have e : i + 1 = n := by omega
          have h := HD.out
          rw [e] at h
          exact none_end h
        go_wp2
        go_ret3
        exact ⟨.no HG.out, rfl⟩
  · go_enter Try.func16, Try.ntmps16
    go_wp2
    clear hc0 hk'
    go_loop [4, 25] (fun l t => ∃ i : Nat, i ≤ 10 ∧ i ≤ 9 ∧ t = .int .i64 i ∧ l = .int .i64 (V f i) ∧ digits f (i + 1)) (fun _ t => 10 - (intOf t).toNat)
    case atStart => exact ⟨0, by omega, by omega, rfl, rfl, fun i a b => by omega⟩
    case round =>
      obtain ⟨i, hi, hi9, rfl, rfl, hd⟩ := hrel
      have HD : Hid (digits f (i + 1)) := hd
      have hVb := V_bd hd
      have hp9 := pow_le_9 hi9
      obtain ⟨v, hv⟩ : ∃ v, v = V f i := ⟨_, rfl⟩
      rw [← hv] at hVb ⊢
      have hV0 : 0 ≤ v := hVb.1
      have hV1 : v ≤ 1000000000 := by have := hVb.2; omega
      have HV : Hid (v = V f i) := hv
      clear hd hVb hp9 hv
      by_cases h1 : i < 10
      · have hcell := HB.out.cell (j := 1 + i) (by omega)
        obtain ⟨c, hc⟩ : ∃ c, c = f (i + 1) := ⟨_, rfl⟩
        rw [Nat.add_comm 1 i, ← hc, Nat.add_comm i 1] at hcell
        have HC : Hid (c = f (i + 1)) := hc
        by_cases h3 : 48 ≤ c ∧ c ≤ 57
        · by_cases h4 : i < 9
          · have HF : Hid (V f (i + 1) = v * 10 + (c - 48)) := by rw [V, ← HV.out, ← HC.out]; rfl
            have HD2 : Hid (digits f (i + 1 + 1)) := digits_snoc HD.out (by rw [← hc]; exact h3)
            obtain ⟨h31, h32⟩ := h3
            clear hc
            go_wp2
            go_round
            case rel => exact ⟨i + 1, by omega, by omega, by go_num, by rw [HF.out], HD2.out⟩
            case measure => simp [intOf]; omega
          · have HG : Hid (¬ ∃ i, Hd.Good f n kind i) := by
              have e : i = 9 := by omega
              have h := digits_snoc HD.out (by rw [← hc]; exact h3)
              rw [e] at h
              exact none_ten h
            obtain ⟨h31, h32⟩ := h3
            have t1 : (c == 13) = false := by simp; omega
            clear hc
            go_wp2
            go_ret3
            exact ⟨.no HG.out, rfl⟩
        · by_cases hg : c = 13 ∧ 2 ≤ i + 1 ∧ i + 1 + 1 < n ∧ f (i + 1 + 1) = 10
          · obtain ⟨g1, g2, g3, g4⟩ := hg
            have HG : Hid (Hd.Good f n kind (i + 1)) := ⟨g2, by omega, g3, HK.out, HD.out, by rw [← hc]; exact g1, g4⟩
            have hcell1 := HB.out.cell g3
            have t1 : (c == 13) = true := by simp [g1]
            have t2 : (f (i + 1 + 1) == 10) = true := by simp [g4]
            have t3 : c < 48 := by omega
            have g2' : 0 < i := by omega
            clear hc h3 g1 g4
            go_wp2
            go_ret3
            exact ⟨.yes HG.out (by exact HV.out) (by omega), rfl⟩
          · have HG : Hid (¬ ∃ i, Hd.Good f n kind i) := none_at HD.out (by omega) (by rw [← hc]; exact h3) (by rw [← hc]; exact hg)
            by_cases q1 : c = 13
            · have t1 : (c == 13) = true := by simp [q1]
              have t3 : c < 48 := by omega
              by_cases q2 : 0 < i
              · by_cases q3 : i + 1 + 1 < n
                · have hcell1 := HB.out.cell q3
                  have t2 : (f (i + 1 + 1) == 10) = false := by
                    rw [beq_eq_false_iff_ne]; exact fun e => hg ⟨q1, by omega, q3, e⟩
                  clear hc h3 hg q1
                  go_wp2
                  go_ret3
                  exact ⟨.no HG.out, rfl⟩
                · omega
              · clear hc h3 hg q1
                go_wp2
                go_ret3
                exact ⟨.no HG.out, rfl⟩
            · have t1 : (c == 13) = false := by simp [q1]
              clear hc hg q1
              by_cases h31 : 48 ≤ c
              · have h32 : ¬ c ≤ 57 := fun h => h3 ⟨h31, h⟩
                clear h3
                go_wp2
                go_ret3
                exact ⟨.no HG.out, rfl⟩
              · clear h3
                go_wp2
                go_ret3
                exact ⟨.no HG.out, rfl⟩
      · omega

end Go.Proofs.Qxb6603754a.Hw
