/-
  From what the law has made to what heirs asks: lemmas outside the walks.
-/
import Derived.Test.Qxb6603178aHeirsAll
import Derived.Test.Qxb6603178aBytes
import Derived.Test.Qxb6603178aMake
namespace Go.Proofs.Qxb6603178a.Hw
open Go.RowKit Cube

theorem gr_none {w w1 w2 : World} (h : w.grownBy w1 none) (g : w1.grownBy w2 none) : w.grownBy w2 none := gr_trans h g (fun k e => by cases e)
/-- What writes to a block that is newer than w writes to nothing of w's. -/
theorem gr_new {w w1 w2 : World} {b : Nat} (h : w.grownBy w1 none) (g : w1.grownBy w2 (some b)) (hb : w.heap.size ≤ b) : w.grownBy w2 none :=
  gr_trans h g (fun k e => by cases e; exact .inr hb)

/-- The shape of a clone. -/
theorem Cloned.shape {w w' : World} {a : Option Addr} {l c : Nat} {f : Nat → Int} {v : Value} (h : Cloned w w' a l f v) (hn : a = none → l = 0 ∧ c = 0) :
    ∃ ah, v = .slice ah l l ∧ (l = 0 ∨ (ah = some ⟨w.heap.size, 0, none⟩ ∧ Blk w' w.heap.size l f)) := by
  rcases h with ⟨ha, rfl, _⟩ | ⟨rfl, hb⟩
  · obtain ⟨rfl, rfl⟩ := hn ha; exact ⟨none, rfl, .inl rfl⟩
  · exact ⟨_, rfl, .inr ⟨rfl, hb⟩⟩

/-- .. of one that is not empty. -/
theorem Cloned.full {w w' : World} {a : Option Addr} {l c : Nat} {f : Nat → Int} {v : Value} (h : Cloned w w' a l f v) (hn : a = none → l = 0 ∧ c = 0) (hl : 0 < l) :
    v = .slice (some ⟨w.heap.size, 0, none⟩) l l ∧ Blk w' w.heap.size l f := by
  obtain ⟨ah, rfl, h1 | ⟨rfl, h2⟩⟩ := h.shape hn
  · omega
  · exact ⟨rfl, h2⟩

/-- What 'good' says of the numbers. -/
theorem good_cast {hs : Nat → Int} {lv : Int} {n m i : Nat} {f : Nat → Int} (h : Hw.Good hs lv n f m) (hi : i < m) : f i = ((heldList f m).getD i 0 : Nat) := by
  obtain ⟨x, h1, _⟩ := h.1 i hi
  rw [heldList_at hi, h1]; simp

theorem env0 {w : World} {C Hb Nb D n m : Nat} {lv : Int} {hs f6 f8 : Nat → Int} (hn : 2 ^ D = n) (hD : D ≤ 12)
    (c0 : w.cell? ⟨C, 0, none⟩ = some (.int .i64 D)) (c1 : w.cell? ⟨C, 1, none⟩ = some (.slice (some ⟨Hb, 0, none⟩) n n)) (c6 : w.cell? ⟨C, 6, none⟩ = some (.slice (some ⟨Nb, 0, none⟩) n n))
    (hb : Blk w Hb n hs) (nb : Blk w Nb n f6) (hz : ∀ j, j < n → f6 j = 0) (ne1 : C ≠ Nb) (ne2 : Hb ≠ Nb) (hg : Hw.Good hs lv n f8 m) (hc : cnt hs lv n = m) (hm : m < n)
    (hp : ∀ j, j < n → 0 ≤ hs j) (ht : ∀ j, j < n → hs j ≤ 2147483647) : Env0 w C Hb Nb D m lv hs (heldList f8 m) := by
  subst hn
  exact ⟨c0, c1, c6, hb, nb.congr hz, ne1, ne2, hD, heldList_len _ _, good_heldOk hg hc, some_other hc hm, hp, ht⟩

/-- The same cube again, held the other way round. -/
theorem Env0.again {w w' : World} {C Hb Nb D m : Nat} {lv : Int} {hs : Nat → Int} {H : List Nat} (h : Env0 w C Hb Nb D m lv hs H) (hg : w.grownBy w' (some Nb)) (nb : Blk w' Nb (2 ^ D) (fun _ => 0)) :
    Env0 w' C Hb Nb D m lv hs H.reverse :=
  ⟨hg.cell h.c0 (by simpa using h.ne1), hg.cell h.c1 (by simpa using h.ne1), hg.cell h.c6 (by simpa using h.ne1), h.hb.grown hg (by simpa using h.ne2), nb, h.ne1, h.ne2, h.dim, by rw [List.length_reverse]; exact h.len,
    heldOk_reverse h.held, h.other, h.pos, h.top⟩

theorem Env0.grown {w w' : World} {C Hb Nb D m : Nat} {lv : Int} {hs : Nat → Int} {H : List Nat} (h : Env0 w C Hb Nb D m lv hs H) (hg : w.grownBy w' none) : Env0 w' C Hb Nb D m lv hs H :=
  ⟨hg.cell h.c0 (by simp), hg.cell h.c1 (by simp), hg.cell h.c6 (by simp), h.hb.grown hg (by simp), h.nb.grown hg (by simp), h.ne1, h.ne2, h.dim, h.len, h.held, h.other, h.pos, h.top⟩

theorem row_top {w : World} {a : Option Addr} {l : Nat} {f : Nat → Int} (h : Row w a l f) : ∀ j, j < l → -2147483648 ≤ f j ∧ f j ≤ 2147483647 := by
  rcases h with h | ⟨_, _, _, _, hb⟩
  · intro j hj; omega
  · exact hb

/-- The cube's cells. -/
theorem cube_cells (w : World) (v0 v1 v2 v3 v4 v5 v6 : Value) : (w.alloc (.cells #[v0, v1, v2, v3, v4, v5, v6] 45)).cell? ⟨w.heap.size, 0, none⟩ = some v0 ∧
    (w.alloc (.cells #[v0, v1, v2, v3, v4, v5, v6] 45)).cell? ⟨w.heap.size, 1, none⟩ = some v1 ∧ (w.alloc (.cells #[v0, v1, v2, v3, v4, v5, v6] 45)).cell? ⟨w.heap.size, 6, none⟩ = some v6 := by
  have h := heap_alloc_new w (.cells #[v0, v1, v2, v3, v4, v5, v6] 45)
  refine ⟨?_, ?_, ?_⟩ <;> rw [cell_of_row _ _ _ _ _ _ h] <;> rfl

end Go.Proofs.Qxb6603178a.Hw
