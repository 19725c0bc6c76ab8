/-
  Loops 1 and 2 of 'heirs': what memory holds behind so many rounds.
-/
import Derived.Test.Qxb6603178aSt
namespace Go.Proofs.Qxb6603178a.Hw
open Go.RowKit Cube

section
variable (hs : Nat → Int) (lv : Int) (D : Nat) (H : List Nat)
def fh1 (k i : Nat) : Int := if i < k then hr hs lv (H.getD i 0) D else 0
def fn1 (k y : Nat) : Int := if y ∈ H.take k then lw hs lv y D else 0
def fr (k : Nat) : List Nat := (H.take k).filter (fun x => decide (0 < lw hs lv x D))
def fh2 (k d i : Nat) : Int := if i < k then hr hs lv (H.getD i 0) D else if i = k then hr hs lv (H.getD k 0) d else 0
def fn2 (k d y : Nat) : Int := if y ∈ H.take k then lw hs lv y D else if y = H.getD k 0 then lw hs lv y d else 0
end

section
variable {hs : Nat → Int} {lv : Int} {D : Nat} {H : List Nat} {k d : Nat}

theorem take_snoc' (hk : k < H.length) : H.take (k + 1) = H.take k ++ [H.getD k 0] := by
  rw [List.take_succ_eq_append_getElem hk, List.getD_eq_getElem?_getD, List.getElem?_eq_getElem hk]; rfl

theorem not_mem_take (hn : H.Nodup) (hk : k < H.length) : ¬ H.getD k 0 ∈ H.take k := by
  intro h
  have h1 : (H.take (k + 1)).Nodup := hn.sublist (List.take_sublist _ _)
  rw [take_snoc' hk, List.nodup_append] at h1
  exact h1.2.2 _ h _ (by simp) rfl

theorem fh2_zero (j : Nat) : upd (fh1 hs lv D H k) k (-1) j = fh2 hs lv D H k 0 j := by
  unfold upd fh1 fh2
  by_cases e : j = k
  · subst e; simp [hr]
  · rw [if_neg e]; by_cases e2 : j < k
    · rw [if_pos e2, if_pos e2]
    · rw [if_neg e2, if_neg e2, if_neg e]
theorem fn2_zero (j : Nat) : fn1 hs lv D H k j = fn2 hs lv D H k 0 j := by
  unfold fn1 fn2
  by_cases e : j ∈ H.take k
  · rw [if_pos e, if_pos e]
  · rw [if_neg e, if_neg e]; split <;> rfl
theorem fh2_at : fh2 hs lv D H k d k = hr hs lv (H.getD k 0) d := by unfold fh2; simp
theorem fn2_at (hn : ¬ H.getD k 0 ∈ H.take k) : fn2 hs lv D H k d (H.getD k 0) = lw hs lv (H.getD k 0) d := by unfold fn2; rw [if_neg hn, if_pos rfl]
theorem fh2_step {v : Int} (hv : hr hs lv (H.getD k 0) (d + 1) = v) (j : Nat) : upd (fh2 hs lv D H k d) k v j = fh2 hs lv D H k (d + 1) j := by
  unfold upd fh2
  by_cases e : j = k
  · subst e; rw [if_pos rfl, if_neg (by omega), if_pos rfl, hv]
  · rw [if_neg e]; by_cases e2 : j < k
    · rw [if_pos e2, if_pos e2]
    · rw [if_neg e2, if_neg e2, if_neg e, if_neg e]
theorem fh2_same (hv : hr hs lv (H.getD k 0) (d + 1) = hr hs lv (H.getD k 0) d) (j : Nat) : fh2 hs lv D H k d j = fh2 hs lv D H k (d + 1) j := by
  unfold fh2; rw [hv]
theorem fn2_step {v : Int} (hn : ¬ H.getD k 0 ∈ H.take k) (hv : lw hs lv (H.getD k 0) (d + 1) = v) (j : Nat) : upd (fn2 hs lv D H k d) (H.getD k 0) v j = fn2 hs lv D H k (d + 1) j := by
  unfold upd fn2
  by_cases e : j = H.getD k 0
  · rw [if_pos e, if_neg (by rw [e]; exact hn), if_pos e, e, hv]
  · rw [if_neg e, if_neg e, if_neg e]
theorem fn2_same (hv : lw hs lv (H.getD k 0) (d + 1) = lw hs lv (H.getD k 0) d) (j : Nat) : fn2 hs lv D H k d j = fn2 hs lv D H k (d + 1) j := by
  unfold fn2
  by_cases e : j = H.getD k 0
  · rw [if_pos e, if_pos e, e, hv]
  · rw [if_neg e, if_neg e]
theorem fh2_end (j : Nat) : fh2 hs lv D H k D j = fh1 hs lv D H (k + 1) j := by
  unfold fh2 fh1
  by_cases e : j < k
  · rw [if_pos e, if_pos (by omega)]
  · by_cases e2 : j = k
    · rw [if_neg e, if_pos e2, if_pos (by omega), e2]
    · rw [if_neg e, if_neg e2, if_neg (by omega)]
theorem fn2_end (hk : k < H.length) (j : Nat) : fn2 hs lv D H k D j = fn1 hs lv D H (k + 1) j := by
  unfold fn2 fn1
  rw [take_snoc' hk]
  by_cases e : j ∈ H.take k
  · rw [if_pos e, if_pos (by simp [e])]
  · rw [if_neg e]
    by_cases e2 : j = H.getD k 0
    · rw [if_pos e2, if_pos (by simp [e2])]
    · rw [if_neg e2, if_neg (by simp only [List.mem_append, List.mem_singleton]; exact fun h => h.elim e e2)]
theorem fr_yes (hk : k < H.length) (h : 0 < lw hs lv (H.getD k 0) D) : fr hs lv D H (k + 1) = fr hs lv D H k ++ [H.getD k 0] := by
  unfold fr; rw [take_snoc' hk, List.filter_append]; simp [h, -List.getD_eq_getElem?_getD]
theorem fr_no (hk : k < H.length) (h : ¬ 0 < lw hs lv (H.getD k 0) D) : fr hs lv D H (k + 1) = fr hs lv D H k := by
  unfold fr; rw [take_snoc' hk, List.filter_append]; simp [h, -List.getD_eq_getElem?_getD]
theorem fr_len : (fr hs lv D H k).length ≤ k := by
  unfold fr
  have h1 := List.length_filter_le (fun x => decide (0 < lw hs lv x D)) (H.take k)
  have h2 : (H.take k).length ≤ k := List.length_take_le _ _
  omega

theorem hr_skip {x : Nat} (h : hs (fl x d) = lv) : hr hs lv x (d + 1) = hr hs lv x d := by simp [hr, h]
theorem hr_take {x : Nat} (h : ¬ hs (fl x d) = lv) (h2 : hr hs lv x d < 0) : hr hs lv x (d + 1) = hs (fl x d) := by simp [hr, h, h2]
theorem hr_keep {x : Nat} (h : ¬ hs (fl x d) = lv) (h2 : ¬ hr hs lv x d < 0) : hr hs lv x (d + 1) = hr hs lv x d := by simp [hr, h, h2]
theorem lw_skip {x : Nat} (h : hs (fl x d) = lv) : lw hs lv x (d + 1) = lw hs lv x d := by simp [lw, h]
theorem lw_take {x : Nat} (h : ¬ hs (fl x d) = lv) (h2 : lw hs lv x d = 0 ∨ (fl x d : Int) < lw hs lv x d - 1) : lw hs lv x (d + 1) = (fl x d : Int) + 1 := by simp [lw, h, h2]
theorem lw_keep {x : Nat} (h : ¬ hs (fl x d) = lv) (h2 : ¬ (lw hs lv x d = 0 ∨ (fl x d : Int) < lw hs lv x d - 1)) : lw hs lv x (d + 1) = lw hs lv x d := by
  rw [lw, if_neg h, if_neg h2]
end

end Go.Proofs.Qxb6603178a.Hw
