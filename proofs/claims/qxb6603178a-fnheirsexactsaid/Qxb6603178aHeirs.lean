/-
  heirs, walked.
-/
import Derived.Test.Qxb6603178aL3
import Derived.RegionTactic
import Derived.BigRegion
namespace Go.Proofs.Qxb6603178a.Hw
open Go.RowKit Cube

set_option maxHeartbeats 4000000 in
set_option maxRecDepth 100000 in
theorem heirs_any (w : World) (C Hb Nb Db D m : Nat) (lv : Int) (hs : Nat → Int) (H : List Nat) (hm : 0 < m) (hE : Env w C Hb Nb Db D m lv hs H) :
    Calls Try.prog 29 #[.pointer (some ⟨C, 0, none⟩), .int .i32 lv, .slice (some ⟨Db, 0, none⟩) m m] w fun e w' =>
      e = .returned (.slice (some ⟨w.heap.size, 0, none⟩) m m) ∧ Blk w' w.heap.size m (fun i => heirOf hs lv D (H.getD i 0)) ∧ Blk w' Nb (2 ^ D) (fun _ => 0) ∧ w.grownBy w' (some Nb) := by
  have hm2 : m ≤ 4096 := Nat.le_trans hE.m_le hE.pow
  have hmk := fun w => run_make_row' (P := Try.prog) 22 21 (.int .i32 0) 4 Try.underlying22 info21 rfl .i64 .i64 m (by omega) (by omega) w
  obtain ⟨i0, hi, hz0, hz1, hz2⟩ := info_parts info21
  have HI : Hid (Try.prog.info? 21 = some i0 ∧ i0.zero = some (.int .i32 0) ∧ i0.size = 1 ∧ i0.bytes = 4) := ⟨hi, hz0, hz1, hz2⟩
  clear hi hz0 hz1 hz2
  have hd12 : D ≤ 12 := hE.dim
  have hpow : 2 ^ D ≤ 4096 := hE.pow
  have n1 : C ≠ w.heap.size := by have := hE.ltC; omega
  have n2 : w.heap.size ≠ C := by have := hE.ltC; omega
  have n3 : Nb ≠ w.heap.size := by have := hE.ltN; omega
  have n4 : w.heap.size ≠ Nb := by have := hE.ltN; omega
  have n5 : Hb ≠ w.heap.size := by have := hE.ltH; omega
  have n6 : w.heap.size ≠ Hb := by have := hE.ltH; omega
  have n7 : C ≠ Nb := hE.ne1
  have n8 : Nb ≠ C := hE.ne1.symm
  have n9 : Hb ≠ Nb := hE.ne2
  have n10 : Nb ≠ Hb := hE.ne2.symm
  have HE : Hid (Env w C Hb Nb Db D m lv hs H) := hE
  clear hE
  generalize hNN : 2 ^ D = NN at hpow
  have HNN : Hid (2 ^ D = NN) := hNN
  clear hNN
  go_enter Try.func29, Try.ntmps29
  go_wp2
  clear hmk
  go_loopw [8, 34] (fun f i wr => ∃ (k : Nat) (a : Option Addr) (c : Nat), k ≤ m ∧ i = .int .i64 k ∧ f = .slice a (fr hs lv D H k).length c ∧
      St w Nb D m wr (fh1 hs lv D H k) (fn1 hs lv D H k) f (.slice none 0 0) (.slice none 0 0) (fr hs lv D H k) [] []) (fun _ i _ => m - (intOf i).toNat)
  case atStart =>
    refine ⟨0, none, 0, by omega, rfl, rfl, ?_⟩
    exact ⟨World.grownBy_alloc _ _ _, (Blk.made w m).congr (fun j _ => by simp [fh1]), (HE.out.nb.alloc _).congr (fun j _ => by simp [fn1]), Own.nil _ _, Own.nil _ _, Own.nil _ _, Apart.nil_left _, Apart.nil_left _, Apart.nil_left _⟩
  case round =>
    obtain ⟨k, a, c, hk, rfl, rfl, hS⟩ := hrel
    by_cases hlt : k < m
    · have HS : Hid (St w Nb D m wr (fh1 hs lv D H k) (fn1 hs lv D H k) (.slice a (fr hs lv D H k).length c) (.slice none 0 0) (.slice none 0 0) (fr hs lv D H k) [] []) := hS
      have hkH : k < H.length := by rw [HE.out.len]; exact hlt
      have HX : Hid (¬ H.getD k 0 ∈ H.take k) := not_mem_take HE.out.held.1 hkH
      have hcell := HE.out.db' hS.gr hlt
      have hc0 := HE.out.c0' hS.gr
      have hcw := hS.bh.cell hlt
      have hfw := hS.bh.frozen k
      clear hS
      obtain ⟨x, hx⟩ : ∃ x, x = H.getD k 0 := ⟨_, rfl⟩
      rw [← hx] at hcell
      have HXX : Hid (x = H.getD k 0) := hx
      have hxlt : x < NN := by rw [hx, ← HNN.out]; exact (HE.out.held_lt hlt).1
      clear hx
      have hfl := fr_len (hs := hs) (lv := lv) (D := D) (H := H) (k := k)
      go_wp2
      go_loopw [46] (fun i wr => ∃ d : Nat, d ≤ D ∧ i = .int .i64 d ∧
        St w Nb D m wr (fh2 hs lv D H k d) (fn2 hs lv D H k d) (.slice a (fr hs lv D H k).length c) (.slice none 0 0) (.slice none 0 0) (fr hs lv D H k) [] []) (fun i _ => D - (intOf i).toNat)
      case atStart => exact ⟨0, by omega, rfl, (HS.out.setH HE.out.ltN k (-1)).congr (fun j _ => fh2_zero j) (fun j _ => fn2_zero j)⟩
      case round =>
        clear hcell hc0 hcw hfw
        obtain ⟨d, hd, rfl, hS2⟩ := hrel
        have HS2 : Hid (St w Nb D m wr (fh2 hs lv D H k d) (fn2 hs lv D H k d) (.slice a (fr hs lv D H k).length c) (.slice none 0 0) (.slice none 0 0) (fr hs lv D H k) [] []) := hS2
        clear hS2 HS
        have hc6 := HE.out.c6' HS2.out.gr
        rw [HNN.out] at hc6
        by_cases hdl : d < D
        · have hc1 := HE.out.c1' HS2.out.gr
          rw [HNN.out] at hc1
          obtain ⟨y, hy⟩ : ∃ y, y = fl x d := ⟨_, rfl⟩
          have hylt : y < NN := by rw [hy, ← HNN.out]; exact fl_lt (by rw [HNN.out]; exact hxlt) hdl
          have hxor : bits .xor .i32 (x : Int) (wrap32 ((2 : Int) ^ d)) = (y : Nat) := by rw [hy]; exact xor_spell (D := D) (by rw [HNN.out]; exact hxlt) hdl hd12
          have hcy := HE.out.hb' HS2.out.gr (y := y) (by rw [HNN.out]; exact hylt)
          have hch := HS2.out.bh.cell hlt
          rw [fh2_at, ← HXX.out] at hch
          have hfh := HS2.out.bh.frozen k
          have hcn := HS2.out.bn.cell (j := x) (by rw [HNN.out]; exact hxlt)
          rw [HXX.out, fn2_at HX.out, ← HXX.out] at hcn
          have hfn := HS2.out.bn.frozen x
          have hlb := lw_bd hs lv D (x := x) (k := d) (by rw [HNN.out]; exact hxlt) hd
          rw [HNN.out] at hlb
          obtain ⟨hl0, hl1⟩ := hlb
          have HY : Hid (y = fl x d) := hy
          clear hy
          by_cases he : hs y = lv
          · have he' : (hs y != lv) = false := by simp [he]
            have HR : Hid (hr hs lv x (d + 1) = hr hs lv x d) := hr_skip (by rw [← HY.out]; exact he)
            have HL : Hid (lw hs lv x (d + 1) = lw hs lv x d) := lw_skip (by rw [← HY.out]; exact he)
            clear he
            go_wp2
            go_roundw
            case rel => exact ⟨d + 1, by omega, by go_num, HS2.out.congr (fun j _ => fh2_same (by rw [← HXX.out]; exact HR.out) j) (fun j _ => fn2_same (by rw [← HXX.out]; exact HL.out) j)⟩
            case measure => simp [intOf]; omega
          · have he' : (hs y != lv) = true := by simp [he]
            have he2 : ¬ hs (fl x d) = lv := by rw [← HY.out]; exact he
            have HE2 : Hid (¬ hs (fl x d) = lv) := he2
            clear he he2
            by_cases h1 : hr hs lv x d < 0
            · have HR : Hid (hr hs lv x (d + 1) = hs y) := by rw [HY.out]; exact hr_take HE2.out h1
              by_cases h2 : lw hs lv x d = 0 ∨ (y : Int) < lw hs lv x d - 1
              · have HL : Hid (lw hs lv x (d + 1) = (y : Int) + 1) := by rw [HY.out]; exact lw_take HE2.out (by rw [← HY.out]; exact h2)
                have fin : Hid (St w Nb D m ((wr.setCell ⟨w.heap.size, k, none⟩ (.int .i32 (hs y))).setCell ⟨Nb, x, none⟩ (.int .i32 ((y : Int) + 1))) (fh2 hs lv D H k (d + 1)) (fn2 hs lv D H k (d + 1)) (.slice a (fr hs lv D H k).length c) (.slice none 0 0) (.slice none 0 0) (fr hs lv D H k) [] []) := by
                  refine ((HS2.out.setH HE.out.ltN k (hs y)).setN HE.out.ltN x ((y : Int) + 1)).congr (fun j _ => fh2_step (by rw [← HXX.out]; exact HR.out) j) (fun j _ => ?_)
                  rw [HXX.out]
                  exact fn2_step HX.out (by rw [← HXX.out]; exact HL.out) j
                by_cases h3 : lw hs lv x d = 0
                · have h3' : (lw hs lv x d == 0) = true := by simp [h3]
                  clear h2 h3
                  go_wp2
                  go_roundw
                  case rel => exact ⟨d + 1, by omega, by go_num, fin.out⟩
                  case measure => simp [intOf]; omega
                · have h3' : (lw hs lv x d == 0) = false := by simp [h3]
                  have h4 : (y : Int) < lw hs lv x d - 1 := by omega
                  clear h2 h3
                  go_wp2
                  go_roundw
                  case rel => exact ⟨d + 1, by omega, by go_num, fin.out⟩
                  case measure => simp [intOf]; omega
              · have HL : Hid (lw hs lv x (d + 1) = lw hs lv x d) := lw_keep HE2.out (by rw [← HY.out]; exact h2)
                have h3' : (lw hs lv x d == 0) = false := by simp; omega
                have h4 : ¬ (y : Int) < lw hs lv x d - 1 := by omega
                clear h2
                have fin : Hid (St w Nb D m (wr.setCell ⟨w.heap.size, k, none⟩ (.int .i32 (hs y))) (fh2 hs lv D H k (d + 1)) (fn2 hs lv D H k (d + 1)) (.slice a (fr hs lv D H k).length c) (.slice none 0 0) (.slice none 0 0) (fr hs lv D H k) [] []) :=
                  (HS2.out.setH HE.out.ltN k (hs y)).congr (fun j _ => fh2_step (by rw [← HXX.out]; exact HR.out) j) (fun j _ => fn2_same (by rw [← HXX.out]; exact HL.out) j)
                go_wp2
                go_roundw
                case rel => exact ⟨d + 1, by omega, by go_num, fin.out⟩
                case measure => simp [intOf]; omega
            · have HR : Hid (hr hs lv x (d + 1) = hr hs lv x d) := hr_keep HE2.out h1
              by_cases h2 : lw hs lv x d = 0 ∨ (y : Int) < lw hs lv x d - 1
              · have HL : Hid (lw hs lv x (d + 1) = (y : Int) + 1) := by rw [HY.out]; exact lw_take HE2.out (by rw [← HY.out]; exact h2)
                have fin : Hid (St w Nb D m (wr.setCell ⟨Nb, x, none⟩ (.int .i32 ((y : Int) + 1))) (fh2 hs lv D H k (d + 1)) (fn2 hs lv D H k (d + 1)) (.slice a (fr hs lv D H k).length c) (.slice none 0 0) (.slice none 0 0) (fr hs lv D H k) [] []) := by
                  refine (HS2.out.setN HE.out.ltN x ((y : Int) + 1)).congr (fun j _ => fh2_same (by rw [← HXX.out]; exact HR.out) j) (fun j _ => ?_)
                  rw [HXX.out]
                  exact fn2_step HX.out (by rw [← HXX.out]; exact HL.out) j
                by_cases h3 : lw hs lv x d = 0
                · have h3' : (lw hs lv x d == 0) = true := by simp [h3]
                  clear h2 h3
                  go_wp2
                  go_roundw
                  case rel => exact ⟨d + 1, by omega, by go_num, fin.out⟩
                  case measure => simp [intOf]; omega
                · have h3' : (lw hs lv x d == 0) = false := by simp [h3]
                  have h4 : (y : Int) < lw hs lv x d - 1 := by omega
                  clear h2 h3
                  go_wp2
                  go_roundw
                  case rel => exact ⟨d + 1, by omega, by go_num, fin.out⟩
                  case measure => simp [intOf]; omega
              · have HL : Hid (lw hs lv x (d + 1) = lw hs lv x d) := lw_keep HE2.out (by rw [← HY.out]; exact h2)
                have h3' : (lw hs lv x d == 0) = false := by simp; omega
                have h4 : ¬ (y : Int) < lw hs lv x d - 1 := by omega
                clear h2
                go_wp2
                go_roundw
                case rel => exact ⟨d + 1, by omega, by go_num, HS2.out.congr (fun j _ => fh2_same (by rw [← HXX.out]; exact HR.out) j) (fun j _ => fn2_same (by rw [← HXX.out]; exact HL.out) j)⟩
                case measure => simp [intOf]; omega
        · have hcn := HS2.out.bn.cell (j := x) (by rw [HNN.out]; exact hxlt)
          rw [HXX.out, fn2_at HX.out, ← HXX.out] at hcn
          have edD : d = D := by omega
          subst edD
          have HS3 : Hid (St w Nb d m wr (fh1 hs lv d H (k + 1)) (fn1 hs lv d H (k + 1)) (.slice a (fr hs lv d H k).length c) (.slice none 0 0) (.slice none 0 0) (fr hs lv d H k) [] []) :=
            HS2.out.congr (fun j _ => fh2_end j) (fun j _ => fn2_end hkH j)
          clear HS2
          by_cases hp : 0 < lw hs lv x d
          · have HF : Hid (fr hs lv d H (k + 1) = fr hs lv d H k ++ [x]) := by rw [HXX.out]; exact fr_yes hkH (by rw [← HXX.out]; exact hp)
            go_wp2_with (at_builtin; refine wpList_append_lies _ rfl _ _ _ rfl (w.heap.size + 1) 21 i0 (.int .i32 0) 1 4 Try.underlying22 HI.out.1 HI.out.2.1 HI.out.2.2.1 HI.out.2.2.2 rfl (by decide) _ _ _ rfl (HS3.out.oF.alloc _) ⟨wr.heap.size, 0, none⟩ 1 1 [.int .i32 (x : Int)] rfl rfl ?n1 ?n2 (by decide) ?n3 ?n4 ?n5 (wr.heap.size + 1) (by simp) ?_)
            case n1 => exact cell_one_new _ _ _
            case n2 => intro u hu; simp at hu; subst hu; rfl
            case n3 => unfold maxLen; omega
            case n4 => omega
            case n5 => have := HS3.out.gr.size; have := HS3.out.bh.lt; simp; omega
            intro g cap w1 hown hgrow hat hlt1
            have fin : Hid (St w Nb d m w1 (fh1 hs lv d H (k + 1)) (fn1 hs lv d H (k + 1)) (.slice (some ⟨g, 0, none⟩) ((fr hs lv d H k).length + 1) cap) (.slice none 0 0) (.slice none 0 0) (fr hs lv d H k ++ [x]) [] []) :=
              HS3.out.pushF HE.out.ltN hown hgrow hat
            clear hown hgrow hat hlt1
            go_wp2
            go_roundw
            case rel => exact ⟨k + 1, _, cap, by omega, by go_num, by rw [HF.out, List.length_append]; rfl, by rw [HF.out]; exact fin.out⟩
            case measure => simp [intOf]; omega
          · have HF : Hid (fr hs lv d H (k + 1) = fr hs lv d H k) := fr_no hkH (by rw [← HXX.out]; exact hp)
            go_wp2
            go_roundw
            case rel => exact ⟨k + 1, a, c, by omega, by go_num, by rw [HF.out], by rw [HF.out]; exact HS3.out⟩
            case measure => simp [intOf]; omega
    · have ekm : k = m := by omega
      subst ekm
      have HS1 : Hid (St w Nb D k wr (fh1 hs lv D H k) (nearK hs lv D 1) (.slice a (fr hs lv D H k).length c) (.slice none 0 0) (.slice none 0 0) (fr hs lv D H k) [] []) :=
        hS.congr (fun _ _ => rfl) (fun j hj => fn1_end HE.out hj)
      have HL1 : Hid (Lev hs lv D (fr hs lv D H k) 1) := lev_one HE.out
      clear hS hk
      have hsl := slice_zero
      go_wp2
      go_loopg [8, 14, 15] (D + 1) (fun gk f nx lw wr => ∃ (q : Nat) (F N L : List Nat) (aF aN aL : Option Addr) (cF nN cN nL cL : Nat), 1 ≤ q ∧ q + gk = D + 2 ∧
        f = .slice aF F.length cF ∧ nx = .slice aN nN cN ∧ lw = .slice aL nL cL ∧ St w Nb D k wr (fh1 hs lv D H k) (nearK hs lv D q) f nx lw F N L ∧ Lev hs lv D F q)
      case atStart => exact ⟨1, _, [], [], a, none, none, c, 0, 0, 0, 0, by omega, by omega, rfl, rfl, rfl, HS1.out, HL1.out⟩
      case round =>
        clear HS1 HL1
        obtain ⟨q, F, N, L, aF, aN, aL, cF, nN, cN, nL, cL, hq1, hq2, rfl, rfl, rfl, hS3, hL3⟩ := hrel
        have HL3 : Hid (Lev hs lv D F q) := hL3
        have hFl : F.length ≤ NN := by rw [← HNN.out]; exact hL3.len
        by_cases hF : 0 < F.length
        · have hqD : q ≤ D := lev_le_D hL3 hF
          obtain ⟨gF, hgF, hgF2⟩ := hS3.oF.place hF
          subst hgF
          have HS3 : Hid (St w Nb D k wr (fh1 hs lv D H k) (marked (nearK hs lv D q) []) (.slice (some ⟨gF, 0, none⟩) F.length cF) (.slice aN 0 cN) (.slice aL nL cL) F [] L) :=
            hS3.truncN.congr (fun _ _ => rfl) (fun j _ => marked_nil j)
          clear hS3 hL3
          go_wp2
          go_loopw [14, 121] (fun nx i wr => ∃ (j : Nat) (aN' : Option Addr) (cN' : Nat), j ≤ F.length ∧ i = .int .i64 j ∧ nx = .slice aN' (mkN hs lv D (nearK hs lv D q) F j).length cN' ∧
            St w Nb D k wr (fh1 hs lv D H k) (marked (nearK hs lv D q) (mkN hs lv D (nearK hs lv D q) F j)) (.slice (some ⟨gF, 0, none⟩) F.length cF) nx (.slice aL nL cL) F (mkN hs lv D (nearK hs lv D q) F j) L) (fun _ i _ => F.length - (intOf i).toNat)
          case atStart => exact ⟨0, aN, cN, by omega, rfl, rfl, HS3.out⟩
          case round =>
            clear HS3
            obtain ⟨j, aN4, cN4, hj, rfl, rfl, hS4⟩ := hrel
            have HS4 : Hid (St w Nb D k wr (fh1 hs lv D H k) (marked (nearK hs lv D q) (mkN hs lv D (nearK hs lv D q) F j)) (.slice (some ⟨gF, 0, none⟩) F.length cF) (.slice aN4 (mkN hs lv D (nearK hs lv D q) F j).length cN4) (.slice aL nL cL) F (mkN hs lv D (nearK hs lv D q) F j) L) := hS4
            by_cases hjF : j < F.length
            · have hcz := hS4.oF.cell hjF
              have hc0 := HE.out.c0' hS4.gr
              obtain ⟨z, hz⟩ : ∃ z, z = F.getD j 0 := ⟨_, rfl⟩
              rw [← hz] at hcz
              have hzlt : z < NN := by rw [hz, ← HNN.out]; exact HL3.out.lt _ (getD_mem hjF)
              have HZ : Hid (z = F.getD j 0) := hz
              clear hS4 hz
              obtain ⟨NJ, hNJ⟩ : ∃ NJ, NJ = mkN hs lv D (nearK hs lv D q) F j := ⟨_, rfl⟩
              rw [← hNJ] at HS4
              have HNJ : Hid (NJ = mkN hs lv D (nearK hs lv D q) F j) := hNJ
              have HNJ2 : Hid (NJ.Nodup ∧ ∀ x ∈ NJ, x < 2 ^ D) := by rw [hNJ]; exact ⟨nodup_mkN j, lt_mkN HL3.out.lt (by omega)⟩
              rw [← hNJ]
              clear hNJ
              go_wp2
              go_loopw [14, 129] (fun nx i wr => ∃ (d : Nat) (aN' : Option Addr) (cN' : Nat), d ≤ D ∧ i = .int .i64 d ∧ nx = .slice aN' (mk1 hs lv (nearK hs lv D q) z NJ d).length cN' ∧
                St w Nb D k wr (fh1 hs lv D H k) (marked (nearK hs lv D q) (mk1 hs lv (nearK hs lv D q) z NJ d)) (.slice (some ⟨gF, 0, none⟩) F.length cF) nx (.slice aL nL cL) F (mk1 hs lv (nearK hs lv D q) z NJ d) L) (fun _ i _ => D - (intOf i).toNat)
              case atStart => exact ⟨0, aN4, cN4, by omega, rfl, rfl, HS4.out⟩
              case round =>
                clear HS4 hcz hc0
                obtain ⟨d, aN5, cN5, hd, rfl, rfl, hS5⟩ := hrel
                obtain ⟨M, hM⟩ : ∃ M, M = mk1 hs lv (nearK hs lv D q) z NJ d := ⟨_, rfl⟩
                rw [← hM] at hS5
                have hMl : M.length ≤ NN := by rw [hM, ← HNN.out]; exact mk1_len HNJ2.out.1 HNJ2.out.2 (by rw [HNN.out]; exact hzlt) hd
                rw [← hM]
                have HM : Hid (M = mk1 hs lv (nearK hs lv D q) z NJ d) := hM
                clear hM
                have HS5 : Hid (St w Nb D k wr (fh1 hs lv D H k) (marked (nearK hs lv D q) M) (.slice (some ⟨gF, 0, none⟩) F.length cF) (.slice aN5 M.length cN5) (.slice aL nL cL) F M L) := hS5
                by_cases hdl : d < D
                · have hc1 := HE.out.c1' hS5.gr
                  have hc6 := HE.out.c6' hS5.gr
                  rw [HNN.out] at hc1 hc6
                  obtain ⟨x, hx⟩ : ∃ x, x = fl z d := ⟨_, rfl⟩
                  have hxlt : x < NN := by rw [hx, ← HNN.out]; exact fl_lt (by rw [HNN.out]; exact hzlt) hdl
                  have hxor : bits .xor .i32 (z : Int) (wrap32 ((2 : Int) ^ d)) = (x : Nat) := by rw [hx]; exact xor_spell (D := D) (by rw [HNN.out]; exact hzlt) hdl hd12
                  have hcx := HE.out.hb' hS5.gr (y := x) (by rw [HNN.out]; exact hxlt)
                  have hcn := hS5.bn.cell (j := x) (by rw [HNN.out]; exact hxlt)
                  have hfn := hS5.bn.frozen x
                  have HX : Hid (x = fl z d) := hx
                  clear hx hS5
                  by_cases he : hs x = lv
                  · have he' : (hs x == lv) = true := by simp [he]
                    by_cases hmk : marked (nearK hs lv D q) M x = 0
                    · have hmk' : (marked (nearK hs lv D q) M x == 0) = true := by simp [hmk]
                      have HM1 : Hid (mk1 hs lv (nearK hs lv D q) z NJ (d + 1) = M ++ [x]) := by
                        show mstep hs lv (nearK hs lv D q) (fl z d) (mk1 hs lv (nearK hs lv D q) z NJ d) = _
                        rw [← HM.out, ← HX.out]
                        exact mstep_yes he hmk
                      have HS6 : Hid (St w Nb D k (wr.setCell ⟨Nb, x, none⟩ (.int .i32 (-1))) (fh1 hs lv D H k) (marked (nearK hs lv D q) (M ++ [x])) (.slice (some ⟨gF, 0, none⟩) F.length cF) (.slice aN5 M.length cN5) (.slice aL nL cL) F M L) :=
                        (HS5.out.setN HE.out.ltN x (-1)).congr (fun _ _ => rfl) (fun i _ => marked_snoc i)
                      clear he hmk HS5
                      go_wp2_with (at_builtin; refine wpList_append_lies _ rfl _ _ _ rfl (w.heap.size + 1) 21 i0 (.int .i32 0) 1 4 Try.underlying22 HI.out.1 HI.out.2.1 HI.out.2.2.1 HI.out.2.2.2 rfl (by decide) _ _ _ rfl (HS6.out.oN.alloc _) ⟨wr.heap.size, 0, none⟩ 1 1 [.int .i32 (x : Int)] rfl rfl ?m1 ?m2 (by decide) ?m3 ?m4 ?m5 (wr.heap.size + 1) (by simp) ?_)
                      case m1 => simpa using cell_one_new (wr.setCell ⟨Nb, x, none⟩ (.int .i32 (-1))) (.int .i32 (x : Int)) 21
                      case m2 => intro u hu; simp at hu; subst hu; rfl
                      case m3 => unfold maxLen; omega
                      case m4 => omega
                      case m5 => have := HS6.out.bh.lt; simp at this ⊢; omega
                      intro g cap w1 hown hgrow hat hlt1
                      have fin : Hid (St w Nb D k w1 (fh1 hs lv D H k) (marked (nearK hs lv D q) (M ++ [x])) (.slice (some ⟨gF, 0, none⟩) F.length cF) (.slice (some ⟨g, 0, none⟩) (M.length + 1) cap) (.slice aL nL cL) F (M ++ [x]) L) :=
                        HS6.out.pushN HE.out.ltN hown hgrow (by simpa using hat)
                      clear hown hgrow hat hlt1 HS6
                      go_wp2
                      go_roundw
                      case rel => exact ⟨d + 1, _, cap, by omega, by go_num, by rw [HM1.out, List.length_append]; rfl, by rw [HM1.out]; exact fin.out⟩
                      case measure => simp [intOf]; omega
                    · have hmk' : (marked (nearK hs lv D q) M x == 0) = false := by simp [hmk]
                      have HM1 : Hid (mk1 hs lv (nearK hs lv D q) z NJ (d + 1) = M) := by
                        show mstep hs lv (nearK hs lv D q) (fl z d) (mk1 hs lv (nearK hs lv D q) z NJ d) = _
                        rw [← HM.out, ← HX.out]
                        exact mstep_no2 hmk
                      clear he hmk
                      go_wp2
                      go_roundw
                      case rel => exact ⟨d + 1, aN5, cN5, by omega, by go_num, by rw [HM1.out], by rw [HM1.out]; exact HS5.out⟩
                      case measure => simp [intOf]; omega
                  · have he' : (hs x == lv) = false := by simp [he]
                    have HM1 : Hid (mk1 hs lv (nearK hs lv D q) z NJ (d + 1) = M) := by
                      show mstep hs lv (nearK hs lv D q) (fl z d) (mk1 hs lv (nearK hs lv D q) z NJ d) = _
                      rw [← HM.out, ← HX.out]
                      exact mstep_no1 he
                    clear he
                    go_wp2
                    go_roundw
                    case rel => exact ⟨d + 1, aN5, cN5, by omega, by go_num, by rw [HM1.out], by rw [HM1.out]; exact HS5.out⟩
                    case measure => simp [intOf]; omega
                · have edD : d = D := by omega
                  clear hS5
                  have HM1 : Hid (mkN hs lv D (nearK hs lv D q) F (j + 1) = M) := by
                    show mk1 hs lv (nearK hs lv D q) (F.getD j 0) (mkN hs lv D (nearK hs lv D q) F j) D = M
                    rw [← HZ.out, ← HNJ.out, HM.out, edD]
                  clear edD
                  go_wp2
                  go_roundw
                  case rel => exact ⟨j + 1, aN5, cN5, by omega, by go_num, by rw [HM1.out], by rw [HM1.out]; exact HS5.out⟩
                  case measure => simp [intOf]; omega

            · have ejF : j = F.length := by omega
              subst ejF
              clear hS4
              obtain ⟨N', hN'⟩ : ∃ N', N' = mkN hs lv D (nearK hs lv D q) F F.length := ⟨_, rfl⟩
              rw [← hN'] at HS4
              have HLN : Hid (Lev hs lv D N' (q + 1)) := by rw [hN']; exact lev_next HE.out.other hq1 HL3.out
              have hNl : N'.length ≤ NN := by rw [← HNN.out]; exact HLN.out.len
              rw [← hN']
              clear hN' HL3
              have HS5 : Hid (St w Nb D k wr (fh1 hs lv D H k) (marked (nearK hs lv D q) N') (.slice (some ⟨gF, 0, none⟩) F.length cF) (.slice aN4 N'.length cN4) (.slice aL 0 cL) F N' []) := HS4.out.truncL
              clear HS4
              go_wp2
              go_loopw [15, 171] (fun lw i wr => ∃ (j : Nat) (aL' : Option Addr) (cL' : Nat), j ≤ N'.length ∧ i = .int .i64 j ∧ lw = .slice aL' j cL' ∧
                St w Nb D k wr (fh1 hs lv D H k) (marked (nearK hs lv D q) N') (.slice (some ⟨gF, 0, none⟩) F.length cF) (.slice aN4 N'.length cN4) lw F N' (lowL hs lv D N' j)) (fun _ i _ => N'.length - (intOf i).toNat)
              case atStart => exact ⟨0, aL, cL, by omega, rfl, rfl, HS5.out⟩
              case round =>
                clear HS5
                obtain ⟨j, aL6, cL6, hj, rfl, rfl, hS6⟩ := hrel
                by_cases hjN : j < N'.length
                · obtain ⟨gN, hgN, hgN2⟩ := hS6.oN.place (by omega)
                  subst hgN
                  have HS6 : Hid (St w Nb D k wr (fh1 hs lv D H k) (marked (nearK hs lv D q) N') (.slice (some ⟨gF, 0, none⟩) F.length cF) (.slice (some ⟨gN, 0, none⟩) N'.length cN4) (.slice aL6 j cL6) F N' (lowL hs lv D N' j)) := hS6
                  have hcx := hS6.oN.cell hjN
                  have hc0 := HE.out.c0' hS6.gr
                  obtain ⟨x, hx⟩ : ∃ x, x = N'.getD j 0 := ⟨_, rfl⟩
                  rw [← hx] at hcx
                  have HXm : Hid (x ∈ N') := by rw [hx]; exact getD_mem hjN
                  have hxlt : x < NN := by rw [← HNN.out]; exact HLN.out.lt _ HXm.out
                  have HX : Hid (x = N'.getD j 0) := hx
                  clear hx hS6
                  go_wp2
                  go_loopw [22, 179] (fun l i wr => ∃ (d : Nat) (lc : Int), d ≤ D ∧ i = .int .i64 d ∧ l = .int .i32 lc ∧ lc = lo (marked (nearK hs lv D q) N') x d ∧
                    St w Nb D k wr (fh1 hs lv D H k) (marked (nearK hs lv D q) N') (.slice (some ⟨gF, 0, none⟩) F.length cF) (.slice (some ⟨gN, 0, none⟩) N'.length cN4) (.slice aL6 j cL6) F N' (lowL hs lv D N' j)) (fun _ i _ => D - (intOf i).toNat)
                  case atStart => exact ⟨0, 0, by omega, rfl, rfl, rfl, HS6.out⟩
                  case round =>
                    clear HS6 hcx hc0
                    obtain ⟨d, lc, hd, rfl, rfl, hlc, hS7⟩ := hrel
                    have HLC : Hid (lc = lo (marked (nearK hs lv D q) N') x d) := hlc
                    clear hlc
                    have HS7 : Hid (St w Nb D k wr (fh1 hs lv D H k) (marked (nearK hs lv D q) N') (.slice (some ⟨gF, 0, none⟩) F.length cF) (.slice (some ⟨gN, 0, none⟩) N'.length cN4) (.slice aL6 j cL6) F N' (lowL hs lv D N' j)) := hS7
                    by_cases hdl : d < D
                    · have hc6 := HE.out.c6' hS7.gr
                      rw [HNN.out] at hc6
                      obtain ⟨y, hy⟩ : ∃ y, y = fl x d := ⟨_, rfl⟩
                      have hylt : y < NN := by rw [hy, ← HNN.out]; exact fl_lt (by rw [HNN.out]; exact hxlt) hdl
                      have hxor : bits .xor .i32 (x : Int) (wrap32 ((2 : Int) ^ d)) = (y : Nat) := by rw [hy]; exact xor_spell (D := D) (by rw [HNN.out]; exact hxlt) hdl hd12
                      have hcn := hS7.bn.cell (j := y) (by rw [HNN.out]; exact hylt)
                      obtain ⟨mv, hmv⟩ : ∃ mv, mv = marked (nearK hs lv D q) N' y := ⟨_, rfl⟩
                      rw [← hmv] at hcn
                      have HMV : Hid (mv = marked (nearK hs lv D q) N' (fl x d)) := by rw [hmv, hy]; rfl
                      have i1 : (0 : Int) ≤ (y : Int) := by omega
                      have i2 : (y : Int) < (NN : Int) := by omega
                      clear hS7 hy hmv
                      by_cases hp : 0 < mv
                      · by_cases h0 : lc = 0
                        · have HF : Hid (lo (marked (nearK hs lv D q) N') x (d + 1) = mv) := by
                            rw [HMV.out]; exact lo_take (by rw [← HMV.out]; exact hp) (.inl (by rw [← HLC.out]; exact h0))
                          have h0' : (lc == 0) = true := by simp [h0]
                          clear h0
                          go_wp2
                          go_quiet (fail)
                          go_wp2
                          go_roundw
                          case rel => exact ⟨d + 1, mv, by omega, by go_num, rfl, HF.out.symm, HS7.out.drewN _⟩
                          case measure => simp [intOf]; omega
                        · have h0' : (lc == 0) = false := by simp [h0]
                          by_cases h1 : mv < lc
                          · have HF : Hid (lo (marked (nearK hs lv D q) N') x (d + 1) = mv) := by
                              rw [HMV.out]; exact lo_take (by rw [← HMV.out]; exact hp) (.inr (by rw [← HLC.out, ← HMV.out]; exact h1))
                            clear h0
                            go_wp2
                            go_quiet (fail)
                            go_wp2
                            go_roundw
                            case rel => exact ⟨d + 1, mv, by omega, by go_num, rfl, HF.out.symm, HS7.out.drewN _⟩
                            case measure => simp [intOf]; omega
                          · have HF : Hid (lo (marked (nearK hs lv D q) N') x (d + 1) = lc) := by
                              rw [HLC.out]; exact lo_keep2 (by rw [← HLC.out, ← HMV.out]; exact fun h => h.elim h0 h1)
                            clear h0
                            go_wp2
                            go_quiet (fail)
                            go_wp2
                            go_roundw
                            case rel => exact ⟨d + 1, lc, by omega, by go_num, rfl, HF.out.symm, HS7.out.drewN _⟩
                            case measure => simp [intOf]; omega
                      · have HF : Hid (lo (marked (nearK hs lv D q) N') x (d + 1) = lc) := by
                          rw [HLC.out]; exact lo_keep1 (by rw [← HMV.out]; exact hp)
                        go_wp2
                        go_quiet (fail)
                        go_wp2
                        go_roundw
                        case rel => exact ⟨d + 1, lc, by omega, by go_num, rfl, HF.out.symm, HS7.out.drewN _⟩
                        case measure => simp [intOf]; omega

                    · have edD : d = D := by omega
                      obtain ⟨t, ht⟩ : ∃ t : Nat, t = B hs lv D x + 1 := ⟨_, rfl⟩
                      have elc : lc = (t : Int) := by
                        rw [HLC.out, edD, lo_final HE.out.other HLN.out hq1 HXm.out, ht]; omega
                      subst elc
                      have HT : Hid (lowL hs lv D N' (j + 1) = lowL hs lv D N' j ++ [t]) := by rw [lowL_succ hjN, ht, HX.out]; rfl
                      have HLL : Hid ((lowL hs lv D N' j).length = j) := lowL_len (by omega)
                      clear hS7 edD ht HLC
                      have HO : Hid (wr.ownsRow (w.heap.size + 1) 21 1 (.slice aL6 j cL6) j ((lowL hs lv D N' j).map val)) := by
                        have h := HS7.out.oL
                        unfold Own at h
                        rw [HLL.out] at h
                        exact h
                      go_wp2_with (at_builtin; refine wpList_append_lies _ rfl _ _ _ rfl (w.heap.size + 1) 21 i0 (.int .i32 0) 1 4 Try.underlying22 HI.out.1 HI.out.2.1 HI.out.2.2.1 HI.out.2.2.2 rfl (by decide) _ _ _ rfl (HO.out.alloc _) ⟨wr.heap.size, 0, none⟩ 1 1 [.int .i32 (t : Int)] rfl rfl ?k1 ?k2 (by decide) ?k3 ?k4 ?k5 (wr.heap.size + 1) (by simp) ?_)
                      case k1 => exact cell_one_new _ _ _
                      case k2 => intro u hu; simp at hu; subst hu; rfl
                      case k3 => unfold maxLen; omega
                      case k4 => omega
                      case k5 => have := HS7.out.bh.lt; simp; omega
                      intro g cap w1 hown hgrow hat hlt1
                      have fin : Hid (St w Nb D k w1 (fh1 hs lv D H k) (marked (nearK hs lv D q) N') (.slice (some ⟨gF, 0, none⟩) F.length cF) (.slice (some ⟨gN, 0, none⟩) N'.length cN4) (.slice (some ⟨g, 0, none⟩) (j + 1) cap) F N' (lowL hs lv D N' j ++ [t])) :=
                        HS7.out.pushL' HLL.out HE.out.ltN hown hgrow hat
                      clear hown hgrow hat hlt1 HS7 HO
                      go_wp2
                      go_roundw
                      case rel => exact ⟨j + 1, _, cap, by omega, by go_num, rfl, by rw [HT.out]; exact fin.out⟩
                      case measure => simp [intOf]; omega
                · have ejN : j = N'.length := by omega
                  subst ejN
                  have HS6 : Hid (St w Nb D k wr (fh1 hs lv D H k) (marked (nearK hs lv D q) N') (.slice (some ⟨gF, 0, none⟩) F.length cF) (.slice aN4 N'.length cN4) (.slice aL6 N'.length cL6) F N' (lowL hs lv D N' N'.length)) := hS6
                  clear hS6
                  go_wp2
                  go_loopw [212] (fun i wr => ∃ j : Nat, j ≤ N'.length ∧ i = .int .i64 j ∧ St w Nb D k wr (fh1 hs lv D H k) (nf8 hs lv D (nearK hs lv D q) N' j) (.slice (some ⟨gF, 0, none⟩) F.length cF) (.slice aN4 N'.length cN4) (.slice aL6 N'.length cL6) F N' (lowL hs lv D N' N'.length)) (fun i _ => N'.length - (intOf i).toNat)
                  case atStart => exact ⟨0, by omega, rfl, HS6.out.congr (fun _ _ => rfl) (fun y _ => nf8_zero y)⟩
                  case round =>
                    clear HS6
                    obtain ⟨j, hj, rfl, hS8⟩ := hrel
                    by_cases hjN : j < N'.length
                    · obtain ⟨gN, hgN, hgN2⟩ := hS8.oN.place (by omega)
                      subst hgN
                      obtain ⟨gL, hgL, hgL2⟩ := hS8.oL.place (by rw [lowL_len (Nat.le_refl _)]; omega)
                      subst hgL
                      have HS8 : Hid (St w Nb D k wr (fh1 hs lv D H k) (nf8 hs lv D (nearK hs lv D q) N' j) (.slice (some ⟨gF, 0, none⟩) F.length cF) (.slice (some ⟨gN, 0, none⟩) N'.length cN4) (.slice (some ⟨gL, 0, none⟩) N'.length cL6) F N' (lowL hs lv D N' N'.length)) := hS8
                      have hcx := hS8.oN.cell hjN
                      have hcl := hS8.oL.cell (j := j) (by rw [lowL_len (Nat.le_refl _)]; exact hjN)
                      rw [lowL_at hjN] at hcl
                      have hc6 := HE.out.c6' hS8.gr
                      rw [HNN.out] at hc6
                      obtain ⟨x, hx⟩ : ∃ x, x = N'.getD j 0 := ⟨_, rfl⟩
                      rw [← hx] at hcx hcl
                      obtain ⟨t, ht⟩ : ∃ t : Nat, t = B hs lv D x + 1 := ⟨_, rfl⟩
                      rw [← ht] at hcl
                      have hxlt : x < NN := by rw [hx, ← HNN.out]; exact HLN.out.lt _ (getD_mem hjN)
                      have hcn := hS8.bn.cell (j := x) (by rw [HNN.out]; exact hxlt)
                      have hfn := hS8.bn.frozen x
                      have fin : Hid (St w Nb D k (wr.setCell ⟨Nb, x, none⟩ (.int .i32 (t : Int))) (fh1 hs lv D H k) (nf8 hs lv D (nearK hs lv D q) N' (j + 1)) (.slice (some ⟨gF, 0, none⟩) F.length cF) (.slice (some ⟨gN, 0, none⟩) N'.length cN4) (.slice (some ⟨gL, 0, none⟩) N'.length cL6) F N' (lowL hs lv D N' N'.length)) := by
                        refine (HS8.out.setN HE.out.ltN x (t : Int)).congr (fun _ _ => rfl) (fun i _ => ?_)
                        rw [ht, hx]
                        exact nf8_step hjN i
                      clear hS8 hx ht
                      have i1 : (0 : Int) ≤ (j : Int) := by omega
                      have i2 : (j : Int) < (N'.length : Int) := by omega
                      have i3 : (0 : Int) ≤ (x : Int) := by omega
                      have i4 : (x : Int) < (NN : Int) := by omega
                      go_wp2
                      go_region
                      all_goals
                        go_wp2
                        go_roundw
                        case rel => exact ⟨j + 1, by omega, by go_num, fin.out.drew⟩
                        case measure => simp [intOf]; omega
                    · have ejN : j = N'.length := by omega
                      subst ejN
                      have fin : Hid (St w Nb D k wr (fh1 hs lv D H k) (nearK hs lv D (q + 1)) (.slice aN4 N'.length cN4) (.slice (some ⟨gF, 0, none⟩) F.length cF) (.slice aL6 N'.length cL6) N' F (lowL hs lv D N' N'.length)) :=
                        hS8.swap.congr (fun _ _ => rfl) (fun y hy => nf8_end HLN.out hy)
                      clear hS8
                      go_wp2
                      go_roundg (gk - 1)
                      case measure => omega
                      case rel => exact ⟨q + 1, N', F, _, aN4, _, aL6, cN4, F.length, cF, N'.length, cL6, by omega, by omega, rfl, rfl, rfl, fin.out, HLN.out⟩



        · clear hL3
          have HS3 : Hid (St w Nb D k wr (fh1 hs lv D H k) (nearK hs lv D q) (.slice aF F.length cF) (.slice aN nN cN) (.slice aL nL cL) F N L) := hS3
          clear hS3
          go_wp2
          have HL9 : Hid (Lev hs lv D [] q) := by
            have eF : F = [] := List.eq_nil_of_length_eq_zero (by omega)
            have h := HL3.out
            rw [eF] at h
            exact h
          clear HL3 hsl
          go_loopw [232] (fun i wr => ∃ j : Nat, j ≤ k ∧ i = .int .i64 j ∧ St w Nb D k wr (fh9 hs lv D H k j) (fn9 hs lv D H q j) (.slice aF F.length cF) (.slice aN nN cN) (.slice aL nL cL) F N L) (fun i _ => k - (intOf i).toNat)
          case atStart => exact ⟨0, by omega, rfl, HS3.out.congr (fun i _ => fh9_zero i) (fun i _ => fn9_zero i)⟩
          case round =>
            clear HS3
            obtain ⟨j, hj, rfl, hS9⟩ := hrel
            have HS9 : Hid (St w Nb D k wr (fh9 hs lv D H k j) (fn9 hs lv D H q j) (.slice aF F.length cF) (.slice aN nN cN) (.slice aL nL cL) F N L) := hS9
            by_cases hjk : j < k
            · have hjH : j < H.length := by rw [HE.out.len]; exact hjk
              have HX : Hid (¬ H.getD j 0 ∈ H.take j) := not_mem_take HE.out.held.1 hjH
              have hcell := HE.out.db' hS9.gr hjk
              obtain ⟨x, hx⟩ : ∃ x, x = H.getD j 0 := ⟨_, rfl⟩
              rw [← hx] at hcell
              have hxlt : x < NN := by rw [hx, ← HNN.out]; exact (HE.out.held_lt hjk).1
              have hxl : hs x = lv := by rw [hx]; exact (HE.out.held_lt hjk).2
              have hc1 := HE.out.c1' hS9.gr
              have hc6 := HE.out.c6' hS9.gr
              rw [HNN.out] at hc1 hc6
              have hch := hS9.bh.cell hjk
              rw [fh9_at hjk, ← hx] at hch
              have hfh := hS9.bh.frozen j
              have hcn := hS9.bn.cell (j := x) (by rw [HNN.out]; exact hxlt)
              have hfn := hS9.bn.frozen x
              obtain ⟨b, hb⟩ : ∃ b, b = B hs lv D x := ⟨_, rfl⟩
              rw [hx, fn9_at HX.out, ← hx, nearK_end HE.out.other hq1 HL9.out (by rw [HNN.out]; exact hxlt) hxl, ← hb] at hcn
              have hblt : b < NN := by rw [hb, ← HNN.out]; exact (B_spec HE.out.other x).1
              have hcb := HE.out.hb' hS9.gr (y := b) (by rw [HNN.out]; exact hblt)
              have HXX : Hid (x = H.getD j 0) := hx
              have HBB : Hid (b = B hs lv D x) := hb
              clear hS9 hx hb hxl
              by_cases hn : hr hs lv x D < 0
              · have fin : Hid (St w Nb D k ((wr.setCell ⟨w.heap.size, j, none⟩ (.int .i32 (hs b))).setCell ⟨Nb, x, none⟩ (.int .i32 0)) (fh9 hs lv D H k (j + 1)) (fn9 hs lv D H q (j + 1)) (.slice aF F.length cF) (.slice aN nN cN) (.slice aL nL cL) F N L) := by
                  refine ((HS9.out.setH HE.out.ltN j (hs b)).setN HE.out.ltN x 0).congr (fun i _ => fh9_step (by rw [← HXX.out, HBB.out]; exact heirOf_neg hn) i) (fun i _ => ?_)
                  rw [HXX.out]
                  exact fn9_step hjH i
                go_wp2
                go_region
                all_goals
                  go_wp2
                  go_roundw
                  case rel => exact ⟨j + 1, by omega, by go_num, fin.out.drew⟩
                  case measure => simp [intOf]; omega
              · have fin : Hid (St w Nb D k (wr.setCell ⟨Nb, x, none⟩ (.int .i32 0)) (fh9 hs lv D H k (j + 1)) (fn9 hs lv D H q (j + 1)) (.slice aF F.length cF) (.slice aN nN cN) (.slice aL nL cL) F N L) := by
                  refine (HS9.out.setN HE.out.ltN x 0).congr (fun i _ => fh9_same hjk (by rw [← HXX.out]; exact heirOf_pos hn) i) (fun i _ => ?_)
                  rw [HXX.out]
                  exact fn9_step hjH i
                go_wp2
                go_roundw
                case rel => exact ⟨j + 1, by omega, by go_num, fin.out⟩
                case measure => simp [intOf]; omega
            · have ejk : j = k := by omega
              subst ejk
              clear hS9
              go_wp2
              go_ret
              exact ⟨rfl, HS9.out.bh.congr (fun i hi => fh9_end hi), by rw [← HNN.out]; exact HS9.out.bn.congr (fun y hy => fn9_end HE.out hy), HS9.out.gr⟩


end Go.Proofs.Qxb6603178a.Hw
