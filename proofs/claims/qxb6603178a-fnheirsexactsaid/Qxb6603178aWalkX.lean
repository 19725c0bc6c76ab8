/-
  The walk of FnHeirsExact.
-/
import Derived.Test.Qxb6603178aSetup
import Derived.Test.Qxb6603178aModel
import Derived.Test.Qxb6603178aBytesX
namespace Go.Proofs.Qxb6603178a.Ex
open Go.RowKit Cube Hw

set_option maxHeartbeats 4000000 in
set_option maxRecDepth 100000 in
theorem walkX (d cv lv : Int) (a1 a2 a3 a4 a6 a8 : Option Addr) (l1 c1 l2 c2 l3 c3 l4 c4 l6 c6 l8 c8 : Nat) (f1 f2 f4 f6 f8 : Nat → Int) (w : World)
    (s1 : SliceIn w a1 l1 c1 f1) (s2 : SliceIn w a2 l2 c2 f2) (s3 : SlicesIn w a3 l3 c3) (s4 : SliceIn w a4 l4 c4 f4) (s6 : SliceIn w a6 l6 c6 f6) (s8 : SliceIn w a8 l8 c8 f8) :
    Calls Try.prog 6 #[.int .i64 d, .slice a1 l1 c1, .slice a2 l2 c2, .slice a3 l3 c3, .slice a4 l4 c4, .int .i64 cv, .slice a6 l6 c6, .int .i32 lv, .slice a8 l8 c8] w
      fun e w' => e = .returned (.bool true) ∧ Below w.heap.size w w' := by
  have S1 : Hid (SliceIn w a1 l1 c1 f1) := s1
  have S2 : Hid (SliceIn w a2 l2 c2 f2) := s2
  have S3 : Hid (SlicesIn w a3 l3 c3) := s3
  have S4 : Hid (SliceIn w a4 l4 c4 f4) := s4
  have S6 : Hid (SliceIn w a6 l6 c6 f6) := s6
  have S8 : Hid (SliceIn w a8 l8 c8 f8) := s8
  clear s1 s2 s3 s4 s6 s8
  go_enter Try.func6, Try.ntmps6
  go_wp2_with fail
  refine (bytesX d cv lv a1 a2 a3 a4 a6 a8 l1 c1 l2 c2 l3 c3 l4 c4 l6 c6 l8 c8 _ S3.out.2).mono ?_
  rintro e w' ⟨⟨r, rfl, hr⟩, rfl⟩
  cases r with
  | false =>
    clear hr
    go_wp2_with fail
    go_ret
    exact ⟨rfl, Below.refl _ _⟩
  | true =>
  obtain ⟨b1, b2, b3, b4, b6, b8, b9⟩ := hr rfl
  have HB9 : Hid (Max2 w a3 l3 1048576) := b9
  clear hr b9
  by_cases hA : l1 ≤ 4096 ∧ l2 ≤ 262144 ∧ l4 ≤ 262144 ∧ l6 ≤ 262144 ∧ l8 ≤ 262144 ∧ l3 ≤ 65536
  · obtain ⟨e1, e2, e4, e6, e8, e3⟩ := hA
    go_wp2_with fail
    refine (coversFit _ a3 l3 c3 _ b3 S3.out.2).mono ?_
    rintro e w' ⟨⟨r, rfl⟩, rfl⟩
    cases r with
    | false =>
      go_wp2_with fail
      go_ret
      exact ⟨rfl, Below.refl _ _⟩
    | true =>
    by_cases hd : 0 ≤ d ∧ d ≤ 12
    · obtain ⟨hd0, hd1⟩ := hd
      obtain ⟨D, rfl⟩ := Int.eq_ofNat_of_zero_le hd0
      have hD : D ≤ 12 := by omega
      clear hd0
      by_cases g1 : 2 ^ D = l1
      · have HNN : Hid (2 ^ D = l1) := g1
        have q1 : ((l1 : Int) != wrap64 ((2 : Int) ^ D)) = false := by
          have e : ((2 : Int) ^ D) = (l1 : Int) := by rw [← g1]; simp
          rw [e]; simp [wrap64]; omega
        have hl0 : 0 < l1 := by rw [← g1]; exact Nat.pow_pos (by omega)
        clear g1
        by_cases g2 : l6 = l1
        · subst g2
          go_wp2_with fail
          refine (nonNeg a1 l6 c1 f1 _ (by omega) S1.out.2).mono ?_
          rintro e w' ⟨⟨r, rfl, hr⟩, rfl⟩
          cases r with
          | false =>
            clear hr
            go_wp2_with fail
            go_ret
            exact ⟨rfl, Below.refl _ _⟩
          | true =>
          have HP : Hid (∀ j, j < l6 → 0 ≤ f1 j) := hr rfl
          clear hr
          go_wp2_with fail
          refine (allZero a6 l6 c6 f6 _ (by omega) S6.out.2).mono ?_
          rintro e w' ⟨⟨r, rfl, hr⟩, rfl⟩
          cases r with
          | false =>
            clear hr
            go_wp2_with fail
            go_ret
            exact ⟨rfl, Below.refl _ _⟩
          | true =>
          have HZ : Hid (∀ j, j < l6 → f6 j = 0) := hr.1 rfl
          clear hr
          go_wp2_with fail
          refine (heldIsLeavers a1 a8 l6 c1 l8 c8 lv f1 f8 _ (by omega) hl0 (by omega) S1.out.2 S8.out.2).mono ?_
          rintro e w1 ⟨⟨r, rfl, hr⟩, hg1⟩
          have HG1 : Hid (w.grownBy w1 none) := hg1
          clear hg1
          cases r with
          | false =>
            clear hr
            go_wp2_with fail
            go_ret
            exact ⟨rfl, gr_below HG1.out⟩
          | true =>
          have HGd : Hid (Hw.Good f1 lv l6 f8 l8 ∧ cnt f1 lv l6 = l8) := hr rfl
          clear hr
          by_cases g3 : l8 < l6
          · obtain ⟨b1, o1, ha1, hel1⟩ : ∃ b1 o1, a1 = some ⟨b1, o1, none⟩ ∧ Elems w b1 o1 l6 f1 := by
              rcases S1.out.2 with h | ⟨b1, o1, h1, h2, _⟩
              · omega
              · exact ⟨b1, o1, h1, h2⟩
            subst ha1
            have HEl : Hid (Elems w b1 o1 l6 f1) := hel1
            clear hel1
            go_wp2_with fail
            -- h
            refine (clone32 _ l6 c1 f1 _ (by omega) S1.out.1 (S1.out.2.grown0 HG1.out)).mono ?_
            rintro e w2 ⟨⟨v, rfl, hv⟩, hg2⟩
            obtain ⟨rfl, hbH⟩ := hv.full S1.out.1 hl0
            have HG2 : Hid (w.grownBy w2 none) := gr_none HG1.out hg2
            obtain ⟨Hb, hHb⟩ : ∃ Hb, Hb = w1.heap.size := ⟨_, rfl⟩
            rw [← hHb] at hbH ⊢
            have HH2 : Hid (Blk w2 Hb l6 f1) := hbH
            clear hv hg2 hbH hHb HG1
            go_wp2_with fail
            -- nr
            refine (clone32 a6 l6 c6 f6 _ (by omega) S6.out.1 (S6.out.2.grown0 HG2.out)).mono ?_
            rintro e w3 ⟨⟨v, rfl, hv⟩, hg3⟩
            obtain ⟨rfl, hbN⟩ := hv.full S6.out.1 hl0
            have HG3 : Hid (w.grownBy w3 none) := gr_none HG2.out hg3
            have hNb0 : w.heap.size ≤ w2.heap.size := HG2.out.size
            have HH3 : Hid (Blk w3 Hb l6 f1) := HH2.out.grown hg3 (by simp)
            have hHN0 : Hb ≠ w2.heap.size := by have := HH2.out.lt; omega
            obtain ⟨Nb, hNb⟩ : ∃ Nb, Nb = w2.heap.size := ⟨_, rfl⟩
            rw [← hNb] at hbN hNb0 hHN0 ⊢
            have HN3 : Hid (Blk w3 Nb l6 f6) := hbN
            have hHN : Hb ≠ Nb := hHN0
            clear hv hg3 hbN hNb HG2 HH2 hHN0
            go_wp2_with fail
            -- hd
            refine (clone32 a8 l8 c8 f8 _ (by omega) S8.out.1 (S8.out.2.grown0 HG3.out)).mono ?_
            rintro e w4 ⟨⟨v, rfl, hv⟩, hg4⟩
            obtain ⟨ah, rfl, hah⟩ := hv.shape S8.out.1
            have HG4 : Hid (w.grownBy w4 none) := gr_none HG3.out hg4
            have HN4 : Hid (Blk w4 Nb l6 f6) := HN3.out.grown hg4 (by simp)
            have HH4 : Hid (Blk w4 Hb l6 f1) := HH3.out.grown hg4 (by simp)
            have HA4 : Hid (l8 = 0 ∨ ∃ Db, ah = some ⟨Db, 0, none⟩ ∧ Blk w4 Db l8 f8 ∧ Db ≠ Nb) := by
              rcases hah with h | ⟨h1, h2⟩
              · exact .inl h
              · exact .inr ⟨_, h1, h2, by have := HN3.out.lt; omega⟩
            clear hv hah hg4 HN3 HH3 HG3
            go_wp2_with fail
            -- own
            refine (clone32 a2 l2 c2 f2 _ (by omega) S2.out.1 (S2.out.2.grown0 HG4.out)).mono ?_
            rintro e w5 ⟨⟨v, rfl, hv⟩, hg5⟩
            obtain ⟨ao, rfl, hao⟩ := hv.shape S2.out.1
            clear hao
            have HG5 : Hid (w.grownBy w5 none) := gr_none HG4.out hg5
            have HN5 : Hid (Blk w5 Nb l6 f6) := HN4.out.grown hg5 (by simp)
            have HH5 : Hid (Blk w5 Hb l6 f1) := HH4.out.grown hg5 (by simp)
            have HA5 : Hid (l8 = 0 ∨ ∃ Db, ah = some ⟨Db, 0, none⟩ ∧ Blk w5 Db l8 f8 ∧ Db ≠ Nb) := HA4.out.elim .inl (fun ⟨Db, h1, h2, h3⟩ => .inr ⟨Db, h1, h2.grown hg5 (by simp), h3⟩)
            clear hv hg5 HN4 HH4 HA4 HG4
            go_wp2_with fail
            -- covers
            refine (clone2 a3 l3 c3 _ (by omega) S3.out.1 (S3.out.2.grown HG5.out) (HB9.out.grown S3.out.2 HG5.out)).mono ?_
            rintro e w6 ⟨⟨ac, lc, cc, rfl⟩, hg6⟩
            have HG6 : Hid (w.grownBy w6 none) := gr_none HG5.out hg6
            have HN6 : Hid (Blk w6 Nb l6 f6) := HN5.out.grown hg6 (by simp)
            have HH6 : Hid (Blk w6 Hb l6 f1) := HH5.out.grown hg6 (by simp)
            have HA6 : Hid (l8 = 0 ∨ ∃ Db, ah = some ⟨Db, 0, none⟩ ∧ Blk w6 Db l8 f8 ∧ Db ≠ Nb) := HA5.out.elim .inl (fun ⟨Db, h1, h2, h3⟩ => .inr ⟨Db, h1, h2.grown hg6 (by simp), h3⟩)
            clear hg6 HN5 HH5 HA5 HG5
            go_wp2_with fail
            -- slot
            refine (clone32 a4 l4 c4 f4 _ (by omega) S4.out.1 (S4.out.2.grown0 HG6.out)).mono ?_
            rintro e w7 ⟨⟨v, rfl, hv⟩, hg7⟩
            obtain ⟨asl, rfl, hao⟩ := hv.shape S4.out.1
            clear hao
            have HG7 : Hid (w.grownBy w7 none) := gr_none HG6.out hg7
            have HN7 : Hid (Blk w7 Nb l6 f6) := HN6.out.grown hg7 (by simp)
            have HH7 : Hid (Blk w7 Hb l6 f1) := HH6.out.grown hg7 (by simp)
            have HA7 : Hid (l8 = 0 ∨ ∃ Db, ah = some ⟨Db, 0, none⟩ ∧ Blk w7 Db l8 f8 ∧ Db ≠ Nb) := HA6.out.elim .inl (fun ⟨Db, h1, h2, h3⟩ => .inr ⟨Db, h1, h2.grown hg7 (by simp), h3⟩)
            clear hv hg7 HN6 HH6 HA6 HG6
            go_wp2_with fail
            -- the cube
            refine (makeCube _ _ _ _ _ _ _ _ _ _ _ _ _ _ _ _ _ _).mono ?_
            rintro e w8 ⟨rfl, hw8⟩
            obtain ⟨C, hC⟩ : ∃ C, C = w7.heap.size := ⟨_, rfl⟩
            rw [← hC]
            have hg8 : w7.grownBy w8 none := by rw [hw8]; exact World.grownBy_alloc _ _ _
            have HG8 : Hid (w.grownBy w8 none) := gr_none HG7.out hg8
            have HA8 : Hid (l8 = 0 ∨ ∃ Db, ah = some ⟨Db, 0, none⟩ ∧ Blk w8 Db l8 (fun i => ((heldList f8 l8).getD i 0 : Nat)) ∧ Db ≠ Nb) :=
              HA7.out.elim .inl (fun ⟨Db, h1, h2, h3⟩ => .inr ⟨Db, h1, (h2.grown hg8 (by simp)).congr (fun i hi => good_cast HGd.out.1 hi), h3⟩)
            have HE : Hid (Env0 w8 C Hb Nb D l8 lv f1 (heldList f8 l8)) := by
              have hcc := cube_cells w7 (.int .i64 D) (.slice (some ⟨Hb, 0, none⟩) l6 l6) (.slice ao l2 l2) (.slice ac lc cc) (.slice asl l4 l4) (.int .i64 cv) (.slice (some ⟨Nb, 0, none⟩) l6 l6)
              rw [← hw8, ← hC] at hcc
              exact env0 HNN.out hD hcc.1 hcc.2.1 hcc.2.2 (HH7.out.grown hg8 (by simp)) (HN7.out.grown hg8 (by simp)) HZ.out (by have := HN7.out.lt; omega) hHN HGd.out.1 HGd.out.2 g3 HP.out (fun j hj => (row_top S1.out.2 j hj).2)
            clear hw8 hg8 hC HG7 HN7 HH7 HA7 HZ
            go_wp2_with fail
            -- the answer
            refine (zzheirs w8 C Hb Nb D l8 lv f1 (heldList f8 l8) ah HE.out HA8.out).mono ?_
            rintro e w9 ⟨rfl, hl9⟩
            obtain ⟨G1, hG1⟩ : ∃ G1, G1 = w8.heap.size := ⟨_, rfl⟩
            rw [← hG1]
            have HG9 : Hid (w.grownBy w9 none) := gr_new HG8.out hl9.2.2 hNb0
            have HB9' : Hid (Blk w9 G1 l8 (fun i => heirOf f1 lv D ((heldList f8 l8).getD i 0))) := by rw [hG1]; exact hl9.1
            have HNz : Hid (Blk w9 Nb l6 (fun _ => 0)) := by have h := hl9.2.1; rw [HNN.out] at h; exact h
            have HH9 : Hid (Blk w9 Hb l6 f1) := by have h := HE.out.hb; rw [HNN.out] at h; exact h.grown hl9.2.2 (by simpa using hHN)
            have HA9 : Hid (l8 = 0 ∨ ∃ Db, ah = some ⟨Db, 0, none⟩ ∧ Blk w9 Db l8 f8) :=
              HA8.out.elim .inl (fun ⟨Db, h1, h2, h3⟩ => .inr ⟨Db, h1, (h2.grown hl9.2.2 (by simpa using h3)).congr (fun i hi => (good_cast HGd.out.1 hi).symm)⟩)
            have HSo : Hid (Some' f1 lv D) := HE.out.other
            clear hl9 hG1 HA8 HE HG8
            go_wp2
            go_loopw [24] (fun i wr' => ∃ k n : Nat, k ≤ l8 ∧ i = .int .i64 k ∧ wr' = w9.drewN n) (fun i _ => l8 - (intOf i).toNat)
            case atStart => exact ⟨0, 0, by omega, rfl, rfl⟩
            case round =>
              obtain ⟨k, n, hk, rfl, rfl⟩ := hrel
              by_cases hlt : k < l8
              · have hrow := S8.out.2.grown0 HG9.out
                rcases hrow with h0 | ⟨b8, o8, ha8, hc8, _⟩
                · omega
                subst ha8
                have hcell := hc8 k hlt
                obtain ⟨x, hx⟩ : ∃ x, x = (heldList f8 l8).getD k 0 := ⟨_, rfl⟩
                rw [good_cast HGd.out.1 hlt, ← hx] at hcell
                have hcg := HB9'.out.cell hlt
                rw [← hx] at hcg
                obtain ⟨x', hx1, hx2, _⟩ := HGd.out.1.1 k hlt
                have hxlt : x < l6 := by
                  have e := good_cast HGd.out.1 hlt
                  rw [← hx, hx1] at e
                  omega
                obtain ⟨u, hu⟩ : ∃ u, u = heirOf f1 lv D x := ⟨_, rfl⟩
                rw [← hu] at hcg
                have HE9 : Hid (Elems w9 b1 o1 l6 f1) := fun j hj => HG9.out.cell (HEl.out j hj) (by simp)
                have j0 : (0 : Int) ≤ (k : Int) := by omega
                have j1 : (k : Int) < (l8 : Int) := by omega
                have huu : (u != u) = false := by simp
                have HM : Hid (∀ j, Calls Try.prog 25 #[.slice (some ⟨b1, o1, none⟩) l6 c1, .int .i64 D, .int .i32 lv, .int .i32 x] (w9.drewN (n + j)) fun e w' => e = .returned (.int .i32 u) ∧ ∃ i, w' = w9.drewN (n + i)) := by
                  show ∀ j, Calls Try.prog 25 #[.slice (some ⟨b1, o1, none⟩) l6 c1, .int .i64 D, .int .i32 lv, .int .i32 x] (w9.drewN (n + j)) fun e w' => e = .returned (.int .i32 u) ∧ ∃ i, w' = w9.drewN (n + i)
                  intro j
                  rw [hu]
                  refine (modelHeir' b1 o1 l6 c1 D x lv f1 (w9.drewN (n + j)) hD HNN.out hxlt HE9.out HP.out HSo.out).mono ?_
                  rintro e w' ⟨h1, h2⟩
                  exact ⟨h1, j, h2⟩
                clear hc8 hx hu hx1 hx2
                go_wp2
                go_quiet ((go_at_call 25; exact HM.out _))
                go_wp2
                go_roundw
                case rel => exact ⟨k + 1, n + nq, by omega, by go_num, by simp⟩
                case measure => simp [intOf]; omega
              · go_wp2_with fail
                refine (allZero (some ⟨Nb, 0, none⟩) l6 l6 (fun _ => 0) _ (by omega) ((HNz.out.row (fun _ _ => by omega)).drewN n)).mono ?_
                rintro e w' ⟨⟨r, rfl, hr⟩, rfl⟩
                have hrt : r = true := hr.2 (fun _ _ => rfl)
                subst hrt
                clear hr
                go_wp2_with fail
                refine (same (some ⟨Hb, 0, none⟩) (some ⟨b1, o1, none⟩) l6 l6 c1 f1 f1 _ (by omega) ((HH9.out.row (row_top S1.out.2)).drewN n) ((S1.out.2.grown0 HG9.out).drewN n)).mono ?_
                rintro e w' ⟨⟨r, rfl, hr⟩, n2, rfl⟩
                have hrt : r = true := hr.2 (fun _ _ => rfl)
                subst hrt
                clear hr
                have HRa : Hid (Row w9 ah l8 f8) := HA9.out.elim .inl (fun ⟨Db, h1, h2⟩ => by rw [h1]; exact h2.row (row_top S8.out.2))
                go_wp2_with fail
                refine (same ah a8 l8 l8 c8 f8 f8 _ (by omega) (HRa.out.drewN (n + n2)) ((S8.out.2.grown0 HG9.out).drewN (n + n2))).mono ?_
                rintro e w' ⟨⟨r, rfl, hr⟩, n3, rfl⟩
                have hrt : r = true := hr.2 (fun _ _ => rfl)
                subst hrt
                clear hr
                go_wp2_with fail
                go_ret
                exact ⟨rfl, gr_below (gr_drewN HG9.out _)⟩


          · go_wp2_with fail
            go_ret
            exact ⟨rfl, gr_below HG1.out⟩
        · have q2 : ((l6 : Int) != (l1 : Int)) = true := by simp; omega
          go_wp2_with fail
          go_ret
          exact ⟨rfl, Below.refl _ _⟩
      · have q1 : ((l1 : Int) != wrap64 ((2 : Int) ^ D)) = true := by
          have e : ((2 : Int) ^ D) = ((2 ^ D : Nat) : Int) := by simp
          have h2 := pow_le_12 hD
          rw [e]
          generalize (2 : Nat) ^ D = q at g1 h2
          simp [wrap64]; omega
        go_wp2_with fail
        go_ret
        exact ⟨rfl, Below.refl _ _⟩
    · go_wp2_with fail
      all_goals
        go_ret
        exact ⟨rfl, Below.refl _ _⟩

  · go_wp2_with fail
    all_goals
      go_ret
      exact ⟨rfl, Below.refl _ _⟩



end Go.Proofs.Qxb6603178a.Ex
