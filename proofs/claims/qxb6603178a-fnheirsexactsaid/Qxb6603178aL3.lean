/-
  Loops 3 to 9 of 'heirs': what memory holds behind so many rounds.
-/
import Derived.Test.Qxb6603178aL1
namespace Go.Proofs.Qxb6603178a.Hw
open Go.RowKit Cube

section
variable {w : World} {C Hb Nb Db D m : Nat} {lv : Int} {hs : Nat → Int} {H : List Nat}

/-- Behind loop 1. -/
theorem fn1_end (h : Env w C Hb Nb Db D m lv hs H) {y : Nat} (hy : y < 2 ^ D) : fn1 hs lv D H m y = nearK hs lv D 1 y := by
  unfold fn1
  rw [List.take_of_length_le (by rw [h.len]; exact Nat.le_refl _)]
  by_cases e : y ∈ H
  · rw [if_pos e]; exact lw_final h.other hy ((h.held.2 y).1 e).2
  · rw [if_neg e, nearK_other (fun hl => e ((h.held.2 y).2 ⟨hy, hl⟩))]

theorem lev_one (h : Env w C Hb Nb Db D m lv hs H) : Lev hs lv D (fr hs lv D H m) 1 := by
  unfold fr
  rw [List.take_of_length_le (by rw [h.len]; exact Nat.le_refl _)]
  refine ⟨h.held.1.filter _, fun x => ?_⟩
  rw [List.mem_filter, h.held.2, decide_eq_true_iff]
  constructor
  · rintro ⟨⟨h1, h2⟩, h3⟩
    refine ⟨h1, h2, ?_⟩
    rw [lw_final h.other h1 h2] at h3
    have h4 : ¬ dist hs lv D x = 0 := fun e => (dist_zero h.other h1).1 e h2
    have h5 : ¬ 1 < dist hs lv D x := fun e => by rw [(nearK_zero h2).2 e] at h3; omega
    omega
  · rintro ⟨h1, h2, h3⟩
    refine ⟨⟨h1, h2⟩, ?_⟩
    rw [lw_final h.other h1 h2]
    unfold nearK
    rw [if_pos ⟨h2, by omega⟩]
    omega

theorem lev_le_D {F : List Nat} {k : Nat} (hF : Lev hs lv D F k) (hp : 0 < F.length) : k ≤ D := by
  have h1 := (hF.2 _).1 (getD_mem hp)
  have h2 := dist_le_D (hs := hs) (lv := lv) (D := D) (F.getD 0 0)
  omega

/-! ### Loop 5 -/
theorem mstep_yes {near : Nat → Int} {x : Nat} {N : List Nat} (h1 : hs x = lv) (h2 : marked near N x = 0) : mstep hs lv near x N = N ++ [x] := by
  unfold marked at h2
  unfold mstep
  by_cases e : x ∈ N
  · rw [if_pos e] at h2; omega
  · rw [if_neg e] at h2; rw [if_pos ⟨h1, h2, e⟩]
theorem mstep_no1 {near : Nat → Int} {x : Nat} {N : List Nat} (h1 : ¬ hs x = lv) : mstep hs lv near x N = N := by
  unfold mstep; rw [if_neg (fun h => h1 h.1)]
theorem mstep_no2 {near : Nat → Int} {x : Nat} {N : List Nat} (h2 : ¬ marked near N x = 0) : mstep hs lv near x N = N := by
  unfold marked at h2
  unfold mstep
  refine if_neg fun h => ?_
  rw [if_neg h.2.2] at h2
  exact h2 h.2.1
theorem marked_snoc {near : Nat → Int} {x : Nat} {N : List Nat} (j : Nat) : upd (marked near N) x (-1) j = marked near (N ++ [x]) j := by
  unfold upd marked
  by_cases e : j = x
  · rw [if_pos e, if_pos (by simp [e])]
  · rw [if_neg e]
    by_cases e2 : j ∈ N
    · rw [if_pos e2, if_pos (by simp [e2])]
    · rw [if_neg e2, if_neg (by simp [e, e2])]
theorem marked_nil {near : Nat → Int} (j : Nat) : near j = marked near [] j := by simp [marked]
theorem mk1_len {near : Nat → Int} {z d : Nat} {N : List Nat} (hn : N.Nodup) (hN : ∀ x ∈ N, x < 2 ^ D) (hz : z < 2 ^ D) (hd : d ≤ D) : (mk1 hs lv near z N d).length ≤ 2 ^ D :=
  nodup_len _ _ (nodup_mk1 hn d) (lt_mk1 hz hN hd)
theorem mkN_len {near : Nat → Int} {F : List Nat} {i : Nat} (hF : ∀ x ∈ F, x < 2 ^ D) (hi : i ≤ F.length) : (mkN hs lv D near F i).length ≤ 2 ^ D :=
  nodup_len _ _ (nodup_mkN i) (lt_mkN hF hi)
theorem marked_bd {near : Nat → Int} {N : List Nat} {n : Int} {x : Nat} (h : 0 ≤ near x ∧ near x ≤ n) (hn : 0 ≤ n) : -1 ≤ marked near N x ∧ marked near N x ≤ n := by
  unfold marked; split <;> omega

/-! ### Loops 6, 7 -/
theorem lo_bd {near : Nat → Int} {x k : Nat} {n : Int} (hn : 0 ≤ n) (h : ∀ d, d < k → near (fl x d) ≤ n) : 0 ≤ lo near x k ∧ lo near x k ≤ n := by
  rcases lo_spec near x k with ⟨h1, _⟩ | ⟨h1, ⟨d, h2, h3⟩, _⟩
  · omega
  · have := h d h2; omega
theorem lo_take {near : Nat → Int} {x d : Nat} (h : 0 < near (fl x d)) (h2 : lo near x d = 0 ∨ near (fl x d) < lo near x d) : lo near x (d + 1) = near (fl x d) := by
  rw [lo, if_pos ⟨h, h2⟩]
theorem lo_keep1 {near : Nat → Int} {x d : Nat} (h : ¬ 0 < near (fl x d)) : lo near x (d + 1) = lo near x d := by
  rw [lo, if_neg (fun h2 => h h2.1)]
theorem lo_keep2 {near : Nat → Int} {x d : Nat} (h2 : ¬ (lo near x d = 0 ∨ near (fl x d) < lo near x d)) : lo near x (d + 1) = lo near x d := by
  rw [lo, if_neg (fun h3 => h2 h3.2)]

/-- The first i of 'lowest'. -/
def lowL (hs : Nat → Int) (lv : Int) (D : Nat) (N : List Nat) (i : Nat) : List Nat := (N.take i).map (fun x => B hs lv D x + 1)
theorem lowL_len {N : List Nat} {i : Nat} (h : i ≤ N.length) : (lowL hs lv D N i).length = i := by
  unfold lowL; rw [List.length_map, List.length_take]; omega
theorem lowL_succ {N : List Nat} {i : Nat} (h : i < N.length) : lowL hs lv D N (i + 1) = lowL hs lv D N i ++ [B hs lv D (N.getD i 0) + 1] := by
  unfold lowL; rw [take_snoc' h, List.map_append]; rfl
theorem lowL_at {N : List Nat} {i : Nat} (h : i < N.length) : (lowL hs lv D N N.length).getD i 0 = B hs lv D (N.getD i 0) + 1 := by
  unfold lowL
  rw [List.take_length, List.getD_eq_getElem?_getD, List.getElem?_map, List.getD_eq_getElem?_getD, List.getElem?_eq_getElem h]
  rfl

/-! ### Loop 8 -/
/-- near, behind i rounds of loop 8. -/
def nf8 (hs : Nat → Int) (lv : Int) (D : Nat) (near : Nat → Int) (N : List Nat) (i y : Nat) : Int := if y ∈ N.take i then (B hs lv D y : Int) + 1 else marked near N y
theorem nf8_zero {near : Nat → Int} {N : List Nat} (y : Nat) : marked near N y = nf8 hs lv D near N 0 y := by simp [nf8]
theorem nf8_step {near : Nat → Int} {N : List Nat} {i : Nat} (h : i < N.length) (j : Nat) : upd (nf8 hs lv D near N i) (N.getD i 0) ((B hs lv D (N.getD i 0) + 1 : Nat) : Int) j = nf8 hs lv D near N (i + 1) j := by
  unfold upd nf8
  rw [take_snoc' h]
  by_cases e : j = N.getD i 0
  · rw [if_pos e, if_pos (by simp only [List.mem_append, List.mem_singleton]; exact .inr e), e]; omega
  · rw [if_neg e]
    by_cases e2 : j ∈ N.take i
    · rw [if_pos e2, if_pos (by simp [e2])]
    · rw [if_neg e2, if_neg (by simp only [List.mem_append, List.mem_singleton]; exact fun h => h.elim e2 e)]
theorem nf8_end {N : List Nat} {k : Nat} (hN : Lev hs lv D N (k + 1)) {j : Nat} (hj : j < 2 ^ D) : nf8 hs lv D (nearK hs lv D k) N N.length j = nearK hs lv D (k + 1) j := by
  rw [← nearK_next hN hj]
  unfold nf8 marked
  rw [List.take_length]
  by_cases e : j ∈ N
  · rw [if_pos e, if_pos e]
  · rw [if_neg e, if_neg e, if_neg e]

/-! ### Loop 9 -/
def fh9 (hs : Nat → Int) (lv : Int) (D : Nat) (H : List Nat) (m i j : Nat) : Int := if j < i then heirOf hs lv D (H.getD j 0) else fh1 hs lv D H m j
def fn9 (hs : Nat → Int) (lv : Int) (D : Nat) (H : List Nat) (k i y : Nat) : Int := if y ∈ H.take i then 0 else nearK hs lv D k y
theorem fh9_zero (j : Nat) : fh1 hs lv D H m j = fh9 hs lv D H m 0 j := by simp [fh9]
theorem fn9_zero {k : Nat} (y : Nat) : nearK hs lv D k y = fn9 hs lv D H k 0 y := by simp [fn9]
theorem fh9_at {i : Nat} (h : i < m) : fh9 hs lv D H m i i = hr hs lv (H.getD i 0) D := by unfold fh9 fh1; rw [if_neg (by omega), if_pos h]
theorem fn9_at {i k : Nat} (hn : ¬ H.getD i 0 ∈ H.take i) : fn9 hs lv D H k i (H.getD i 0) = nearK hs lv D k (H.getD i 0) := by unfold fn9; rw [if_neg hn]
theorem fh9_step {i : Nat} {v : Int} (hv : heirOf hs lv D (H.getD i 0) = v) (j : Nat) : upd (fh9 hs lv D H m i) i v j = fh9 hs lv D H m (i + 1) j := by
  unfold upd fh9
  by_cases e : j = i
  · rw [if_pos e, if_pos (by omega), e, hv]
  · rw [if_neg e]
    by_cases e2 : j < i
    · rw [if_pos e2, if_pos (by omega)]
    · rw [if_neg e2, if_neg (by omega)]
theorem fh9_same {i : Nat} (h : i < m) (hv : heirOf hs lv D (H.getD i 0) = hr hs lv (H.getD i 0) D) (j : Nat) : fh9 hs lv D H m i j = fh9 hs lv D H m (i + 1) j := by
  rw [← fh9_step (m := m) hv j]
  unfold upd
  by_cases e : j = i
  · rw [if_pos e, e, fh9_at h]
  · rw [if_neg e]
theorem fn9_step {i k : Nat} (h : i < H.length) (j : Nat) : upd (fn9 hs lv D H k i) (H.getD i 0) 0 j = fn9 hs lv D H k (i + 1) j := by
  unfold upd fn9
  rw [take_snoc' h]
  by_cases e : j = H.getD i 0
  · rw [if_pos e, if_pos (by simp only [List.mem_append, List.mem_singleton]; exact .inr e)]
  · rw [if_neg e]
    by_cases e2 : j ∈ H.take i
    · rw [if_pos e2, if_pos (by simp [e2])]
    · rw [if_neg e2, if_neg (by simp only [List.mem_append, List.mem_singleton]; exact fun h => h.elim e2 e)]
theorem fh9_end {j : Nat} (h : j < m) : fh9 hs lv D H m m j = heirOf hs lv D (H.getD j 0) := by unfold fh9; rw [if_pos h]
theorem fn9_end (h : Env w C Hb Nb Db D m lv hs H) {k y : Nat} (hy : y < 2 ^ D) : fn9 hs lv D H k m y = 0 := by
  unfold fn9
  rw [List.take_of_length_le (by rw [h.len]; exact Nat.le_refl _)]
  by_cases e : y ∈ H
  · rw [if_pos e]
  · rw [if_neg e, nearK_other (fun hl => e ((h.held.2 y).2 ⟨hy, hl⟩))]
theorem heirOf_neg {x : Nat} (h : hr hs lv x D < 0) : heirOf hs lv D x = hs (B hs lv D x) := by unfold heirOf; rw [if_pos h]
theorem heirOf_pos {x : Nat} (h : ¬ hr hs lv x D < 0) : heirOf hs lv D x = hr hs lv x D := by unfold heirOf; rw [if_neg h]
end

theorem addr_add_zero (a : Addr) : a.add 0 = a := by
  unfold Addr.add; split <;> simp_all

/-- 's[:0]' -/
theorem slice_zero (w : World) (a : Option Addr) (n c : Nat) : (Instr.slice 22 (.slice a n c) none (some (.int .i64 0)) none).run Try.prog w = .ok (.slice a 0 c) w := by
  obtain ⟨i, hi, _, hs, _⟩ := info_parts info21
  have hz : ∀ w, (sizeOf 21).run Try.prog w = .ok 1 w := fun w => by simp [sizeOf, typeInfo, hi, hs]
  have he : (if c = 0 then a else a.map (·.add 0)) = a := by
    split
    · rfl
    · cases a <;> simp [addr_add_zero]
  simp [Instr.slice, run_underlying Try.underlying22, Instr.sliceBounds, Instr.sliceBound, asIntOf, hz, he]

end Go.Proofs.Qxb6603178a.Hw
