/-
  The walk of FnHeirsRepeatableAnyOrder.
-/
import Derived.Test.Qxb6603178aSetup
namespace Go.Proofs.Qxb6603178a.Rp
open Go.RowKit Cube Hw

set_option maxHeartbeats 4000000 in
set_option maxRecDepth 100000 in
theorem walkR (d cv lv : Int) (a1 a2 a3 a4 a6 a8 : Option Addr) (l1 c1 l2 c2 l3 c3 l4 c4 l6 c6 l8 c8 : Nat) (f1 f2 f4 f6 f8 : Nat → Int) (w : World)
    (s1 : SliceIn w a1 l1 c1 f1) (s2 : SliceIn w a2 l2 c2 f2) (s3 : SlicesIn w a3 l3 c3) (s4 : SliceIn w a4 l4 c4 f4) (s6 : SliceIn w a6 l6 c6 f6) (s8 : SliceIn w a8 l8 c8 f8) :
    Calls Try.prog 7 #[.int .i64 d, .slice a1 l1 c1, .slice a2 l2 c2, .slice a3 l3 c3, .slice a4 l4 c4, .int .i64 cv, .slice a6 l6 c6, .int .i32 lv, .slice a8 l8 c8] w
      fun e w' => e = .returned (.bool true) ∧ Below w.heap.size w w' := by
  have S1 : Hid (SliceIn w a1 l1 c1 f1) := s1
  have S2 : Hid (SliceIn w a2 l2 c2 f2) := s2
  have S3 : Hid (SlicesIn w a3 l3 c3) := s3
  have S4 : Hid (SliceIn w a4 l4 c4 f4) := s4
  have S6 : Hid (SliceIn w a6 l6 c6 f6) := s6
  have S8 : Hid (SliceIn w a8 l8 c8 f8) := s8
  clear s1 s2 s3 s4 s6 s8
  go_enter Try.func7, Try.ntmps7
  go_wp2_with fail
  refine (bytesR d cv lv a1 a2 a3 a4 a6 a8 l1 c1 l2 c2 l3 c3 l4 c4 l6 c6 l8 c8 _ S3.out.2).mono ?_
  rintro e w' ⟨⟨r, rfl, hr⟩, rfl⟩
  cases r with
  | false =>
    clear hr
    go_wp2_with fail
    go_ret
    exact ⟨rfl, Below.refl _ _⟩
  | true =>
  obtain ⟨b1, b2, b3, b4, b6, b8, b9⟩ := hr rfl
  have HB9 : Hid (Max2 w a3 l3 1048576) := b9
  clear hr b9
  by_cases hA : l1 ≤ 4096 ∧ l2 ≤ 262144 ∧ l4 ≤ 262144 ∧ l6 ≤ 262144 ∧ l8 ≤ 262144 ∧ l3 ≤ 65536
  · obtain ⟨e1, e2, e4, e6, e8, e3⟩ := hA
    go_wp2_with fail
    refine (coversFit _ a3 l3 c3 _ b3 S3.out.2).mono ?_
    rintro e w' ⟨⟨r, rfl⟩, rfl⟩
    cases r with
    | false =>
      go_wp2_with fail
      go_ret
      exact ⟨rfl, Below.refl _ _⟩
    | true =>
    by_cases hd : 0 ≤ d ∧ d ≤ 12
    · obtain ⟨hd0, hd1⟩ := hd
      obtain ⟨D, rfl⟩ := Int.eq_ofNat_of_zero_le hd0
      have hD : D ≤ 12 := by omega
      clear hd0
      by_cases g1 : 2 ^ D = l1
      · have HNN : Hid (2 ^ D = l1) := g1
        have q1 : ((l1 : Int) != wrap64 ((2 : Int) ^ D)) = false := by
          have e : ((2 : Int) ^ D) = (l1 : Int) := by rw [← g1]; simp
          rw [e]; simp [wrap64]; omega
        have hl0 : 0 < l1 := by rw [← g1]; exact Nat.pow_pos (by omega)
        clear g1
        by_cases g2 : l6 = l1
        · subst g2
          go_wp2_with fail
          refine (nonNeg a1 l6 c1 f1 _ (by omega) S1.out.2).mono ?_
          rintro e w' ⟨⟨r, rfl, hr⟩, rfl⟩
          cases r with
          | false =>
            clear hr
            go_wp2_with fail
            go_ret
            exact ⟨rfl, Below.refl _ _⟩
          | true =>
          have HP : Hid (∀ j, j < l6 → 0 ≤ f1 j) := hr rfl
          clear hr
          go_wp2_with fail
          refine (allZero a6 l6 c6 f6 _ (by omega) S6.out.2).mono ?_
          rintro e w' ⟨⟨r, rfl, hr⟩, rfl⟩
          cases r with
          | false =>
            clear hr
            go_wp2_with fail
            go_ret
            exact ⟨rfl, Below.refl _ _⟩
          | true =>
          have HZ : Hid (∀ j, j < l6 → f6 j = 0) := hr.1 rfl
          clear hr
          go_wp2_with fail
          refine (heldIsLeavers a1 a8 l6 c1 l8 c8 lv f1 f8 _ (by omega) hl0 (by omega) S1.out.2 S8.out.2).mono ?_
          rintro e w1 ⟨⟨r, rfl, hr⟩, hg1⟩
          have HG1 : Hid (w.grownBy w1 none) := hg1
          clear hg1
          cases r with
          | false =>
            clear hr
            go_wp2_with fail
            go_ret
            exact ⟨rfl, gr_below HG1.out⟩
          | true =>
          have HGd : Hid (Hw.Good f1 lv l6 f8 l8 ∧ cnt f1 lv l6 = l8) := hr rfl
          clear hr
          by_cases g3 : l8 < l6
          · go_wp2_with fail
            -- nr
            refine (clone32 a6 l6 c6 f6 _ (by omega) S6.out.1 (S6.out.2.grown0 HG1.out)).mono ?_
            rintro e w2 ⟨⟨v, rfl, hv⟩, hg2⟩
            obtain ⟨rfl, hbN⟩ := hv.full S6.out.1 hl0
            have HG2 : Hid (w.grownBy w2 none) := gr_none HG1.out hg2
            have hNb0 : w.heap.size ≤ w1.heap.size := HG1.out.size
            obtain ⟨Nb, hNb⟩ : ∃ Nb, Nb = w1.heap.size := ⟨_, rfl⟩
            rw [← hNb] at hbN hNb0 ⊢
            have HN2 : Hid (Blk w2 Nb l6 f6) := hbN
            clear hv hg2 hbN hNb HG1
            go_wp2_with fail
            -- hd
            refine (clone32 a8 l8 c8 f8 _ (by omega) S8.out.1 (S8.out.2.grown0 HG2.out)).mono ?_
            rintro e w3 ⟨⟨v, rfl, hv⟩, hg3⟩
            obtain ⟨ah, rfl, hah⟩ := hv.shape S8.out.1
            have HG3 : Hid (w.grownBy w3 none) := gr_none HG2.out hg3
            have HN3 : Hid (Blk w3 Nb l6 f6) := HN2.out.grown hg3 (by simp)
            have HA3 : Hid (l8 = 0 ∨ ∃ Db, ah = some ⟨Db, 0, none⟩ ∧ Blk w3 Db l8 f8 ∧ Db ≠ Nb) := by
              rcases hah with h | ⟨h1, h2⟩
              · exact .inl h
              · exact .inr ⟨_, h1, h2, by have := HN2.out.lt; omega⟩
            clear hv hah hg3 HN2 HG2
            go_wp2_with fail
            -- holder
            refine (clone32 a1 l6 c1 f1 _ (by omega) S1.out.1 (S1.out.2.grown0 HG3.out)).mono ?_
            rintro e w4 ⟨⟨v, rfl, hv⟩, hg4⟩
            obtain ⟨rfl, hbH⟩ := hv.full S1.out.1 hl0
            have HG4 : Hid (w.grownBy w4 none) := gr_none HG3.out hg4
            have HN4 : Hid (Blk w4 Nb l6 f6) := HN3.out.grown hg4 (by simp)
            have HA4 : Hid (l8 = 0 ∨ ∃ Db, ah = some ⟨Db, 0, none⟩ ∧ Blk w4 Db l8 f8 ∧ Db ≠ Nb) := HA3.out.elim .inl (fun ⟨Db, h1, h2, h3⟩ => .inr ⟨Db, h1, h2.grown hg4 (by simp), h3⟩)
            obtain ⟨Hb, hHb⟩ : ∃ Hb, Hb = w3.heap.size := ⟨_, rfl⟩
            rw [← hHb] at hbH ⊢
            have HH4 : Hid (Blk w4 Hb l6 f1) := hbH
            have hHN : Hb ≠ Nb := by have := HN3.out.lt; omega
            clear hv hg4 hbH hHb HN3 HA3 HG3
            go_wp2_with fail
            -- own
            refine (clone32 a2 l2 c2 f2 _ (by omega) S2.out.1 (S2.out.2.grown0 HG4.out)).mono ?_
            rintro e w5 ⟨⟨v, rfl, hv⟩, hg5⟩
            obtain ⟨ao, rfl, hao⟩ := hv.shape S2.out.1
            clear hao
            have HG5 : Hid (w.grownBy w5 none) := gr_none HG4.out hg5
            have HN5 : Hid (Blk w5 Nb l6 f6) := HN4.out.grown hg5 (by simp)
            have HH5 : Hid (Blk w5 Hb l6 f1) := HH4.out.grown hg5 (by simp)
            have HA5 : Hid (l8 = 0 ∨ ∃ Db, ah = some ⟨Db, 0, none⟩ ∧ Blk w5 Db l8 f8 ∧ Db ≠ Nb) := HA4.out.elim .inl (fun ⟨Db, h1, h2, h3⟩ => .inr ⟨Db, h1, h2.grown hg5 (by simp), h3⟩)
            clear hv hg5 HN4 HH4 HA4 HG4
            go_wp2_with fail
            -- covers
            refine (clone2 a3 l3 c3 _ (by omega) S3.out.1 (S3.out.2.grown HG5.out) (HB9.out.grown S3.out.2 HG5.out)).mono ?_
            rintro e w6 ⟨⟨ac, lc, cc, rfl⟩, hg6⟩
            have HG6 : Hid (w.grownBy w6 none) := gr_none HG5.out hg6
            have HN6 : Hid (Blk w6 Nb l6 f6) := HN5.out.grown hg6 (by simp)
            have HH6 : Hid (Blk w6 Hb l6 f1) := HH5.out.grown hg6 (by simp)
            have HA6 : Hid (l8 = 0 ∨ ∃ Db, ah = some ⟨Db, 0, none⟩ ∧ Blk w6 Db l8 f8 ∧ Db ≠ Nb) := HA5.out.elim .inl (fun ⟨Db, h1, h2, h3⟩ => .inr ⟨Db, h1, h2.grown hg6 (by simp), h3⟩)
            clear hg6 HN5 HH5 HA5 HG5
            go_wp2_with fail
            -- slot
            refine (clone32 a4 l4 c4 f4 _ (by omega) S4.out.1 (S4.out.2.grown0 HG6.out)).mono ?_
            rintro e w7 ⟨⟨v, rfl, hv⟩, hg7⟩
            obtain ⟨asl, rfl, hao⟩ := hv.shape S4.out.1
            clear hao
            have HG7 : Hid (w.grownBy w7 none) := gr_none HG6.out hg7
            have HN7 : Hid (Blk w7 Nb l6 f6) := HN6.out.grown hg7 (by simp)
            have HH7 : Hid (Blk w7 Hb l6 f1) := HH6.out.grown hg7 (by simp)
            have HA7 : Hid (l8 = 0 ∨ ∃ Db, ah = some ⟨Db, 0, none⟩ ∧ Blk w7 Db l8 f8 ∧ Db ≠ Nb) := HA6.out.elim .inl (fun ⟨Db, h1, h2, h3⟩ => .inr ⟨Db, h1, h2.grown hg7 (by simp), h3⟩)
            clear hv hg7 HN6 HH6 HA6 HG6
            go_wp2_with fail
            -- the cube
            refine (makeCube _ _ _ _ _ _ _ _ _ _ _ _ _ _ _ _ _ _).mono ?_
            rintro e w8 ⟨rfl, hw8⟩
            obtain ⟨C, hC⟩ : ∃ C, C = w7.heap.size := ⟨_, rfl⟩
            rw [← hC]
            have hg8 : w7.grownBy w8 none := by rw [hw8]; exact World.grownBy_alloc _ _ _
            have HG8 : Hid (w.grownBy w8 none) := gr_none HG7.out hg8
            have HA8 : Hid (l8 = 0 ∨ ∃ Db, ah = some ⟨Db, 0, none⟩ ∧ Blk w8 Db l8 (fun i => ((heldList f8 l8).getD i 0 : Nat)) ∧ Db ≠ Nb) :=
              HA7.out.elim .inl (fun ⟨Db, h1, h2, h3⟩ => .inr ⟨Db, h1, (h2.grown hg8 (by simp)).congr (fun i hi => good_cast HGd.out.1 hi), h3⟩)
            have HE : Hid (Env0 w8 C Hb Nb D l8 lv f1 (heldList f8 l8)) := by
              have hcc := cube_cells w7 (.int .i64 D) (.slice (some ⟨Hb, 0, none⟩) l6 l6) (.slice ao l2 l2) (.slice ac lc cc) (.slice asl l4 l4) (.int .i64 cv) (.slice (some ⟨Nb, 0, none⟩) l6 l6)
              rw [← hw8, ← hC] at hcc
              exact env0 HNN.out hD hcc.1 hcc.2.1 hcc.2.2 (HH7.out.grown hg8 (by simp)) (HN7.out.grown hg8 (by simp)) HZ.out (by have := HN7.out.lt; omega) hHN HGd.out.1 HGd.out.2 g3 HP.out (fun j hj => (row_top S1.out.2 j hj).2)
            clear hw8 hg8 hC HG7 HN7 HH7 HA7 HZ HP
            go_wp2_with fail
            -- the first answer
            refine (zzheirs w8 C Hb Nb D l8 lv f1 (heldList f8 l8) ah HE.out HA8.out).mono ?_
            rintro e w9 ⟨rfl, hl9⟩
            obtain ⟨G1, hG1⟩ : ∃ G1, G1 = w8.heap.size := ⟨_, rfl⟩
            rw [← hG1]
            have HG9 : Hid (w.grownBy w9 none) := gr_new HG8.out hl9.2.2 hNb0
            have HB9' : Hid (Blk w9 G1 l8 (fun i => heirOf f1 lv D ((heldList f8 l8).getD i 0))) := by rw [hG1]; exact hl9.1
            have HE9 : Hid (Env0 w9 C Hb Nb D l8 lv f1 (heldList f8 l8).reverse) := HE.out.again hl9.2.2 hl9.2.1
            have HGN : Hid (G1 ≠ Nb) := by have := HE.out.nb.lt; show _ ≠ _; omega
            have HHd : Hid (HeldOk f1 lv (2 ^ D) (heldList f8 l8)) := HE.out.held
            have HSo : Hid (Some' f1 lv D ∧ ∀ z, z < 2 ^ D → 0 ≤ f1 z) := ⟨HE.out.other, HE.out.pos⟩
            clear hl9 hG1 HA8 HE HG8
            have hmk := fun w => run_make_row' (P := Try.prog) 22 21 (.int .i32 0) 4 Try.underlying22 info21 rfl .i64 .i64 l8 (by omega) (by omega) w
            go_wp2
            clear hmk
            go_loopw [25] (fun i wr => ∃ k : Nat, k ≤ l8 ∧ i = .int .i64 k ∧ Blk wr w9.heap.size l8 (fun j => if j < k then f8 (l8 - 1 - j) else 0) ∧ w9.grownBy wr none) (fun i _ => l8 - (intOf i).toNat)
            case atStart => exact ⟨0, by omega, rfl, (Blk.made w9 l8).congr (fun j _ => by simp), World.grownBy_alloc _ _ _⟩
            case round =>
              obtain ⟨k, hk, rfl, hB, hG⟩ := hrel
              by_cases hlt : k < l8
              · have hrow := S8.out.2.grown0 (gr_none HG9.out hG)
                rcases hrow with h0 | ⟨b8, o8, ha8, hc8, _⟩
                · omega
                subst ha8
                have hcell := hc8 (l8 - 1 - k) (by omega)
                have fin : Hid (Blk (wr.setCell ⟨w9.heap.size, k, none⟩ (.int .i32 (f8 (l8 - 1 - k)))) w9.heap.size l8 (fun j => if j < k + 1 then f8 (l8 - 1 - j) else 0)) := by
                  refine (hB.set k _).congr (fun j hj => ?_)
                  by_cases e : j = k
                  · subst e; simp
                  · by_cases e2 : j < k
                    · rw [if_neg e, if_pos e2, if_pos (by omega)]
                    · rw [if_neg e, if_neg e2, if_neg (by omega)]
                have fin2 : Hid (w9.grownBy (wr.setCell ⟨w9.heap.size, k, none⟩ (.int .i32 (f8 (l8 - 1 - k)))) none) := gr_set hG _ (.inr (Nat.le_refl _))
                have hcw := hB.cell hlt
                have hfz := hB.frozen k
                obtain ⟨fv, hfv⟩ : ∃ fv, fv = f8 (l8 - 1 - k) := ⟨_, rfl⟩
                rw [← hfv] at hcell fin fin2
                have j1 : (0 : Int) ≤ (l8 : Int) - 1 - (k : Int) := by omega
                have j2 : (l8 : Int) - 1 - (k : Int) < (l8 : Int) := by omega
                clear hc8 hB hG hfv
                go_wp2
                go_roundw
                case rel => exact ⟨k + 1, by omega, by go_num, fin.out, fin2.out⟩
                case measure => simp [intOf]; omega
              · have ekl : l8 = k := by omega
                subst ekl
                have HR : Hid (l8 = 0 ∨ ∃ Db, (some ⟨w9.heap.size, 0, none⟩ : Option Addr) = some ⟨Db, 0, none⟩ ∧ Blk wr Db l8 (fun i => ((heldList f8 l8).reverse.getD i 0 : Nat)) ∧ Db ≠ Nb) := by
                  refine .inr ⟨_, rfl, hB.congr (fun j hj => ?_), by have := HE9.out.nb.lt; omega⟩
                  rw [if_pos hj, reverse_at (heldList_len _ _) hj]
                  exact good_cast HGd.out.1 (by omega)
                have HE10 : Hid (Env0 wr C Hb Nb D l8 lv f1 (heldList f8 l8).reverse) := HE9.out.grown hG
                have HB10 : Hid (Blk wr G1 l8 (fun i => heirOf f1 lv D ((heldList f8 l8).getD i 0))) := HB9'.out.grown hG (by simp)
                have HG10 : Hid (w.grownBy wr none) := gr_none HG9.out hG
                clear hB hG HE9 HB9' HG9
                go_wp2_with fail
                -- the second answer
                refine (zzheirs wr C Hb Nb D l8 lv f1 (heldList f8 l8).reverse _ HE10.out HR.out).mono ?_
                rintro e w11 ⟨rfl, hl11⟩
                obtain ⟨G2, hG2⟩ : ∃ G2, G2 = wr.heap.size := ⟨_, rfl⟩
                rw [← hG2]
                have HB1 : Hid (Blk w11 G1 l8 (fun i => heirOf f1 lv D ((heldList f8 l8).getD i 0))) := HB10.out.grown hl11.2.2 (by simpa using HGN.out)
                have HB2 : Hid (Blk w11 G2 l8 (fun i => heirOf f1 lv D ((heldList f8 l8).reverse.getD i 0))) := by rw [hG2]; exact hl11.1
                have HNz : Hid (Blk w11 Nb l6 (fun _ => 0)) := by have h := hl11.2.1; rw [HNN.out] at h; exact h
                have HG11 : Hid (w.grownBy w11 none) := gr_new HG10.out hl11.2.2 hNb0
                clear hl11 hG2 HR HE10 HB10 HG10
                go_wp2
                go_loopw [27] (fun i wr' => ∃ k n : Nat, k ≤ l8 ∧ i = .int .i64 k ∧ wr' = w11.drewN n) (fun i _ => l8 - (intOf i).toNat)
                case atStart => exact ⟨0, 0, by omega, rfl, rfl⟩
                case round =>
                  obtain ⟨k, n, hk, rfl, rfl⟩ := hrel
                  by_cases hlt : k < l8
                  · have hc2 := HB2.out.cell hlt
                    rw [reverse_at (heldList_len _ _) hlt] at hc2
                    have hc1 := HB1.out.cell (j := l8 - 1 - k) (by omega)
                    have hc1' := HB1.out.cell hlt
                    have hxk := (HHd.out.2 _).1 (getD_mem (by rw [heldList_len]; exact hlt))
                    have hne : (heirOf f1 lv D ((heldList f8 l8).getD k 0) == lv) = false := by
                      rw [beq_eq_false_iff_ne]; exact heirOf_ne HSo.out.1 HSo.out.2 hxk.1
                    obtain ⟨u, hu⟩ : ∃ u, u = heirOf f1 lv D ((heldList f8 l8).getD (l8 - 1 - k) 0) := ⟨_, rfl⟩
                    obtain ⟨v, hv⟩ : ∃ v, v = heirOf f1 lv D ((heldList f8 l8).getD k 0) := ⟨_, rfl⟩
                    rw [← hu] at hc2 hc1
                    rw [← hv] at hc1' hne
                    have j0 : (0 : Int) ≤ (k : Int) := by omega
                    have j1 : (k : Int) < (l8 : Int) := by omega
                    have j2 : (0 : Int) ≤ (l8 : Int) - 1 - (k : Int) := by omega
                    have j3 : (l8 : Int) - 1 - (k : Int) < (l8 : Int) := by omega
                    have huu : (u != u) = false := by simp
                    clear hu hv hxk
                    go_wp2
                    go_quiet (fail)
                    go_wp2
                    go_roundw
                    case rel => exact ⟨k + 1, n + nq, by omega, by go_num, by simp⟩
                    case measure => simp [intOf]; omega
                  · go_wp2_with fail
                    refine (allZero (some ⟨Nb, 0, none⟩) l6 l6 (fun _ => 0) _ (by omega) ((HNz.out.row (fun _ _ => by omega)).drewN n)).mono ?_
                    rintro e w' ⟨⟨r, rfl, hr⟩, rfl⟩
                    have hrt : r = true := hr.2 (fun _ _ => rfl)
                    subst hrt
                    clear hr
                    go_wp2_with fail
                    go_ret
                    exact ⟨rfl, gr_below (gr_drewN HG11.out n)⟩



          · go_wp2_with fail
            go_ret
            exact ⟨rfl, gr_below HG1.out⟩
        · have q2 : ((l6 : Int) != (l1 : Int)) = true := by simp; omega
          go_wp2_with fail
          go_ret
          exact ⟨rfl, Below.refl _ _⟩
      · have q1 : ((l1 : Int) != wrap64 ((2 : Int) ^ D)) = true := by
          have e : ((2 : Int) ^ D) = ((2 ^ D : Nat) : Int) := by simp
          have h2 := pow_le_12 hD
          rw [e]
          generalize (2 : Nat) ^ D = q at g1 h2
          simp [wrap64]; omega
        go_wp2_with fail
        go_ret
        exact ⟨rfl, Below.refl _ _⟩
    · go_wp2_with fail
      all_goals
        go_ret
        exact ⟨rfl, Below.refl _ _⟩

  · go_wp2_with fail
    all_goals
      go_ret
      exact ⟨rfl, Below.refl _ _⟩



end Go.Proofs.Qxb6603178a.Rp
