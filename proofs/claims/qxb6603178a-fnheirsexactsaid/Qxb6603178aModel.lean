/-
  zzPopcount and zzModelHeir.
-/
import Derived.Test.Qxb6603178aSetup
namespace Go.Proofs.Qxb6603178a.Cube

theorem pc_big {x j : Nat} (hx : x < 2 ^ j) : ∀ k, pc (j + k) x = pc j x := by
  intro k
  induction k with
  | zero => rfl
  | succ k ih =>
    show pc (j + k) x + (x.testBit (j + k)).toNat = _
    rw [Nat.testBit_lt_two_pow (Nat.lt_of_lt_of_le hx (Nat.pow_le_pow_right (by omega) (by omega))), ih]; rfl

theorem pc_same {x i j : Nat} (hi : x < 2 ^ i) (hj : x < 2 ^ j) : pc i x = pc j x := by
  rcases Nat.le_total i j with h | h
  · obtain ⟨k, rfl⟩ := Nat.exists_eq_add_of_le h; exact (pc_big hi k).symm
  · obtain ⟨k, rfl⟩ := Nat.exists_eq_add_of_le h; exact pc_big hj k

theorem pc_succ (j x : Nat) : pc (j + 1) x = pc j x + x / 2 ^ j % 2 := by
  show pc j x + (x.testBit j).toNat = _
  rw [Nat.toNat_testBit]

end Go.Proofs.Qxb6603178a.Cube
namespace Go.Proofs.Qxb6603178a.Hw
open Go.RowKit Cube

theorem and_one (y : Nat) (hy : y < 2147483648) : bits .and .i64 (y : Int) 1 = ((y % 2 : Nat) : Int) := by
  show IntKind.i64.wrap ((BitVec.ofInt 64 (y : Int) &&& BitVec.ofInt 64 ((1 : Nat) : Int)).toNat : Int) = _
  rw [BitVec.toNat_and, ofInt_u64 y (by omega), ofInt_u64 1 (by omega), Nat.and_one_is_mod]
  simp [IntKind.wrap, IntKind.bits, IntKind.signed]
  omega

set_option maxHeartbeats 400000 in
theorem popcount (D x : Nat) (w : World) (hD : D ≤ 12) (hx : x < 2 ^ D) :
    Calls Try.prog 30 #[.int .i64 x] w fun e w' => e = .returned (.int .i64 (pc D x)) ∧ w = w' := by
  have hp := pow_le_12 hD
  have HX : Hid (x < 2 ^ D) := hx
  have hx4 : x < 4096 := by omega
  clear hp hx
  go_enter Try.func30, Try.ntmps30
  go_wp2
  go_loop [0, 3] (fun t n => ∃ (j y c : Nat), j ≤ 12 ∧ y = x / 2 ^ j ∧ c = pc j x ∧ t = .int .i64 y ∧ n = .int .i64 c) (fun t _ => (intOf t).toNat)
  case atStart => exact ⟨0, x, 0, by omega, by simp, rfl, rfl, rfl⟩
  case round =>
    obtain ⟨j, y, c, hj, hy, hc, rfl, rfl⟩ := hrel
    have hyx : y ≤ x := by rw [hy]; exact Nat.div_le_self _ _
    have hcj : c ≤ 12 := by have := pc_le j x; omega
    have HY : Hid (y = x / 2 ^ j) := hy
    have HC : Hid (c = pc j x) := hc
    clear hy hc
    by_cases hp : 0 < y
    · have hand := and_one y (by omega)
      have hj12 : j < 12 := by
        refine Classical.byContradiction fun hge => ?_
        have e : j = 12 := by omega
        have h := HY.out
        rw [e, Nat.div_eq_of_lt (by omega)] at h
        omega
      obtain ⟨r, hr⟩ : ∃ r, r = y % 2 := ⟨_, rfl⟩
      rw [← hr] at hand
      have hr2 : r ≤ 1 := by omega
      have HR : Hid (r = y % 2) := hr
      clear hr
      go_wp2
      go_round
      case rel =>
        refine ⟨j + 1, y / 2, c + r, by omega, ?_, ?_, by go_num, by go_num⟩
        · rw [HY.out, Nat.div_div_eq_div_mul, Nat.pow_succ]
        · rw [pc_succ, ← HY.out, ← HC.out, HR.out]
      case measure => simp [intOf]; omega
    · have HF : Hid (pc D x = c) := by
        have h := HY.out
        have h2 : x < 2 ^ j := by
          refine Classical.byContradiction fun hge => ?_
          have := Nat.div_pos (Nat.le_of_not_lt hge) (Nat.pow_pos (n := j) (show 0 < 2 by omega))
          omega
        rw [HC.out]
        exact pc_same HX.out h2
      go_wp2
      go_ret
      exact ⟨by rw [HF.out]; rfl, rfl⟩

/-- What the model's second loop holds behind z rounds. -/
def BestIs (hs : Nat → Int) (lv : Int) (D x z : Nat) (b bd : Int) : Prop :=
  (bst hs lv D x z = none ∧ b = -1 ∧ bd = 0) ∨ ∃ q : Nat, bst hs lv D x z = some q ∧ b = (q : Int) ∧ bd = (ham D x q : Nat)

theorem bst_skip {hs : Nat → Int} {lv : Int} {D x z : Nat} (h : hs z = lv) : bst hs lv D x (z + 1) = bst hs lv D x z := by rw [bst, if_pos h]
theorem bst_first {hs : Nat → Int} {lv : Int} {D x z : Nat} (h : ¬ hs z = lv) (h2 : bst hs lv D x z = none) : bst hs lv D x (z + 1) = some z := by rw [bst, if_neg h, h2]
theorem bst_less {hs : Nat → Int} {lv : Int} {D x z q : Nat} (h : ¬ hs z = lv) (h2 : bst hs lv D x z = some q) (h3 : ham D x z < ham D x q) : bst hs lv D x (z + 1) = some z := by rw [bst, if_neg h, h2]; simp [h3]
theorem bst_keep {hs : Nat → Int} {lv : Int} {D x z q : Nat} (h : ¬ hs z = lv) (h2 : bst hs lv D x z = some q) (h3 : ¬ ham D x z < ham D x q) : bst hs lv D x (z + 1) = some q := by rw [bst, if_neg h, h2]; simp [h3]

set_option maxHeartbeats 1000000 in
theorem modelHeir (b1 o1 n c1 D x : Nat) (lv : Int) (hs : Nat → Int) (w : World) (hD : D ≤ 12) (hn : 2 ^ D = n) (hx : x < n) (hc : Elems w b1 o1 n hs) (hp : ∀ z, z < n → 0 ≤ hs z) (ho : Some' hs lv D) :
    Calls Try.prog 25 #[.slice (some ⟨b1, o1, none⟩) n c1, .int .i64 D, .int .i32 lv, .int .i32 x] w fun e w' => e = .returned (.int .i32 (heirOf hs lv D x)) ∧ w = w' := by
  have hn4 : n ≤ 4096 := by rw [← hn]; exact pow_le_12 hD
  have HN : Hid (2 ^ D = n) := hn
  have HC : Hid (Elems w b1 o1 n hs) := hc
  have HP : Hid (∀ z, z < 2 ^ D → 0 ≤ hs z) := by rw [hn]; exact hp
  have HO : Hid (Some' hs lv D) := ho
  have HX : Hid (x < 2 ^ D) := by rw [hn]; exact hx
  clear hn hc hp ho
  go_enter Try.func25, Try.ntmps25
  go_wp2
  go_loop [9] (fun i => ∃ d : Nat, d ≤ D ∧ i = .int .i64 d ∧ ∀ d', d' < d → hs (fl x d') = lv) (fun i => D - (intOf i).toNat)
  case atStart => exact ⟨0, by omega, rfl, fun d' h => by omega⟩
  case round =>
    obtain ⟨d, hd, rfl, hall⟩ := hrel
    have HL : Hid (∀ d', d' < d → hs (fl x d') = lv) := hall
    clear hall
    by_cases hdl : d < D
    · obtain ⟨y, hy⟩ : ∃ y, y = fl x d := ⟨_, rfl⟩
      have hylt : y < n := by rw [hy, ← HN.out]; exact fl_lt HX.out hdl
      have hxor : bits .xor .i32 (x : Int) (wrap32 ((2 : Int) ^ d)) = (y : Nat) := by rw [hy]; exact xor_spell HX.out hdl hD
      have hcy := HC.out y hylt
      have HY : Hid (y = fl x d) := hy
      clear hy
      by_cases he : hs y = lv
      · have he' : (hs y != lv) = false := by simp [he]
        have HL2 : Hid (∀ d', d' < d + 1 → hs (fl x d') = lv) := by
          intro d' h'
          by_cases e : d' = d
          · subst e; rw [← HY.out]; exact he
          · exact HL.out d' (by omega)
        clear he
        go_wp2
        go_round
        case rel => exact ⟨d + 1, by omega, by go_num, HL2.out⟩
        case measure => simp [intOf]; omega
      · have he' : (hs y != lv) = true := by simp [he]
        have HF : Hid (heirOf hs lv D x = hs y) := by
          rcases hr_spec hs lv D HP.out HX.out (Nat.le_refl D) with ⟨_, h2⟩ | ⟨e, h1, h2, h3, h4, h5⟩
          · exact absurd (h2 d hdl) (by rw [← HY.out]; exact he)
          · have eed : e = d := by
              rcases Nat.lt_trichotomy e d with h | h | h
              · exact absurd (HL.out e h) h2
              · exact h
              · exact absurd (h5 d h) (by rw [← HY.out]; exact he)
            show heirOf hs lv D x = hs y
            rw [heirOf_pos (by omega), h3, eed, HY.out]
        clear he
        go_wp2
        go_ret
        exact ⟨by rw [HF.out]; rfl, rfl⟩
    · have HR : Hid (heirOf hs lv D x = hs (B hs lv D x)) := by
        have e : d = D := by omega
        have h := HL.out
        rw [e] at h
        rcases hr_spec hs lv D HP.out HX.out (Nat.le_refl D) with ⟨h1, _⟩ | ⟨e, h1, h2, _⟩
        · exact heirOf_neg (by omega)
        · exact absurd (h e h1) h2
      clear HL
      go_wp2
      go_loop [11, 12, 13] (fun bb bd i => ∃ (z : Nat) (b q : Int), z ≤ n ∧ i = .int .i64 z ∧ bb = .int .i64 b ∧ bd = .int .i64 q ∧ BestIs hs lv D x z b q) (fun _ _ i => n - (intOf i).toNat)
      case atStart => exact ⟨0, -1, 0, by omega, rfl, rfl, rfl, .inl ⟨rfl, rfl, rfl⟩⟩
      case round =>
        obtain ⟨z, b, q, hz, rfl, rfl, rfl, hB⟩ := hrel
        have HB : Hid (BestIs hs lv D x z b q) := hB
        clear hB
        by_cases hzn : z < n
        · have hcz := HC.out z hzn
          by_cases he : hs z = lv
          · have he' : (hs z == lv) = true := by simp [he]
            have HB2 : Hid (BestIs hs lv D x (z + 1) b q) := by unfold BestIs; rw [bst_skip he]; exact HB.out
            clear he
            go_wp2
            go_round
            case rel => exact ⟨z + 1, b, q, by omega, by go_num, rfl, rfl, HB2.out⟩
            case measure => simp [intOf]; omega
          · have he' : (hs z == lv) = false := by simp [he]
            obtain ⟨u, hu⟩ : ∃ u, u = x ^^^ z := ⟨_, rfl⟩
            have hxz : bits .xor .i64 (x : Int) (z : Int) = (u : Nat) := by rw [hu]; exact xor_i64 x z (by omega) (by omega)
            have hul : u < 2 ^ D := by rw [hu]; exact Nat.xor_lt_two_pow HX.out (by rw [HN.out]; exact hzn)
            have HU : Hid (u < 2 ^ D) := hul
            obtain ⟨k, hk⟩ : ∃ k : Nat, k = pc D u := ⟨_, rfl⟩
            have HK : Hid (k = ham D x z) := by rw [hk, hu]; rfl
            have HK2 : Hid (pc D u = k) := hk.symm
            clear hu hul hk
            rcases HB.out with ⟨h1, h2, h3⟩ | ⟨p, h1, h2, h3⟩
            · have HB2 : Hid (BestIs hs lv D x (z + 1) z k) := .inr ⟨z, bst_first he h1, rfl, by rw [HK.out]⟩
              subst h2 h3
              clear he h1 HB
              go_wp2_with fail
              refine (popcount D u _ hD HU.out).mono ?_
              rintro e w' ⟨rfl, rfl⟩
              rw [HK2.out]
              go_wp2
              go_round
              case rel => exact ⟨z + 1, z, k, by omega, by go_num, rfl, rfl, HB2.out⟩
              case measure => simp [intOf]; omega
            · obtain ⟨hp, hhp⟩ : ∃ hp, hp = ham D x p := ⟨_, rfl⟩
              rw [← hhp] at h3
              subst h2 h3
              by_cases hl : k < hp
              · have HB2 : Hid (BestIs hs lv D x (z + 1) z k) := .inr ⟨z, bst_less he h1 (by rw [← HK.out, ← hhp]; exact hl), rfl, by rw [HK.out]⟩
                clear he h1 HB hhp
                go_wp2_with fail
                refine (popcount D u _ hD HU.out).mono ?_
                rintro e w' ⟨rfl, rfl⟩
                rw [HK2.out]
                go_wp2
                go_round
                case rel => exact ⟨z + 1, z, k, by omega, by go_num, rfl, rfl, HB2.out⟩
                case measure => simp [intOf]; omega
              · have HB2 : Hid (BestIs hs lv D x (z + 1) p hp) := .inr ⟨p, bst_keep he h1 (by rw [← HK.out, ← hhp]; exact hl), rfl, by rw [hhp]⟩
                clear he h1 HB hhp
                go_wp2_with fail
                refine (popcount D u _ hD HU.out).mono ?_
                rintro e w' ⟨rfl, rfl⟩
                rw [HK2.out]
                go_wp2
                go_round
                case rel => exact ⟨z + 1, p, hp, by omega, by go_num, rfl, rfl, HB2.out⟩
                case measure => simp [intOf]; omega
        · have ezn : z = n := by omega
          have hex : ∃ p : Nat, b = (p : Int) ∧ p < n ∧ B hs lv D x = p := by
            rcases HB.out with ⟨h1, _⟩ | ⟨p, h1, h2, _⟩
            · rw [ezn, ← HN.out] at h1
              obtain ⟨y, y1, y2⟩ := HO.out
              exact absurd (bst_none hs lv D h1 y y1) y2
            · rw [ezn, ← HN.out] at h1
              refine ⟨p, h2, ?_, by unfold B; rw [h1]; rfl⟩
              rw [← HN.out]; exact (bst_some hs lv D h1).1
          obtain ⟨p, rfl, hpn, hpB⟩ := hex
          have HF : Hid (heirOf hs lv D x = hs p) := by rw [HR.out, hpB]; rfl
          have hcp := HC.out p hpn
          clear hpB ezn HB
          go_wp2
          go_ret
          exact ⟨by rw [HF.out]; rfl, rfl⟩

theorem modelHeir' (b1 o1 n c1 D x : Nat) (lv : Int) (hs : Nat → Int) (w : World) (hD : D ≤ 12) (hn : 2 ^ D = n) (hx : x < n) (hc : Elems w b1 o1 n hs) (hp : ∀ z, z < n → 0 ≤ hs z) (ho : Some' hs lv D) :
    Calls Try.prog 25 #[.slice (some ⟨b1, o1, none⟩) n c1, .int .i64 D, .int .i32 lv, .int .i32 x] w fun e w' => e = .returned (.int .i32 (heirOf hs lv D x)) ∧ w' = w :=
  (modelHeir b1 o1 n c1 D x lv hs w hD hn hx hc hp ho).mono fun _ _ ⟨h1, h2⟩ => ⟨h1, h2.symm⟩

end Go.Proofs.Qxb6603178a.Hw
