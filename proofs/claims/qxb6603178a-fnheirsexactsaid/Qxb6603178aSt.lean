/-
  The state of 'heirs' in memory, and what each of its steps does to it.
-/
import Derived.Test.Qxb6603178aHeld
import Derived.Deep.AppendLies
import Derived.Deep.LoopGhost
namespace Go.Proofs.Qxb6603178a.Hw
open Go.RowKit Cube

def val (x : Nat) : Value := .int .i32 (x : Int)
def upd (f : Nat → Int) (j : Nat) (v : Int) : Nat → Int := fun i => if i = j then v else f i

/-- The slice v holds F, in a row of the call's own. -/
def Own (w wr : World) (v : Value) (F : List Nat) : Prop := wr.ownsRow (w.heap.size + 1) 21 1 v F.length (F.map val)
/-- Two slices lie in two rows. -/
def Apart (u v : Value) : Prop := ∀ k, u.ownBlock = some k → v.ownBlock ≠ some k

theorem Apart.symm {u v : Value} (h : Apart u v) : Apart v u := fun k hv hu => h k hu hv
theorem Apart.nil_left (v : Value) : Apart (.slice none 0 0) v := fun k h => by simp [Value.ownBlock] at h
theorem Apart.nil_right (v : Value) : Apart v (.slice none 0 0) := (Apart.nil_left v).symm

theorem Own.nil (w wr : World) : Own w wr (.slice none 0 0) [] := World.ownsRow_nil _ _ _ _
theorem Own.setCell {w wr : World} {v : Value} {F : List Nat} (h : Own w wr v F) {a : Addr} (ha : a.block ≤ w.heap.size) (u : Value) : Own w (wr.setCell a u) v F := ownsRow_setCell_below h (by omega) u
theorem Own.alloc {w wr : World} {v : Value} {F : List Nat} (h : Own w wr v F) (o : Obj) : Own w (wr.alloc o) v F := World.ownsRow.alloc h o
theorem Own.drewN {w wr : World} {v : Value} {F : List Nat} (h : Own w wr v F) (n : Nat) : Own w (wr.drewN n) v F := h
theorem Own.kept {w wr w1 : World} {v u : Value} {F : List Nat} (h : Own w wr v F) (hg : wr.grownBy w1 u.ownBlock) (ha : Apart v u) : Own w w1 v F :=
  World.ownsRow.kept h hg (by
    cases hv : v.ownBlock with
    | none => exact .inl rfl
    | some k => exact .inr (fun e => ha k hv e.symm))
theorem Own.trunc {w wr : World} {a : Option Addr} {n c : Nat} {F : List Nat} (h : Own w wr (.slice a n c) F) : Own w wr (.slice a 0 c) [] := by
  refine ⟨by simp, ?_⟩
  rcases h.2 with ⟨h1, h2⟩ | ⟨g, cap, cur, h1, h2, h3, h4, h5, h6, h7⟩
  · cases h1; exact .inl ⟨rfl, rfl⟩
  · cases h1
    exact .inr ⟨g, c, cur, rfl, h2, h3, Nat.zero_le _, h5, h6, by simp⟩
theorem Own.len {w wr : World} {a : Option Addr} {n c : Nat} {F : List Nat} (h : Own w wr (.slice a n c) F) : n = F.length := by
  rcases h.2 with ⟨h1, h2⟩ | ⟨g, cap, cur, h1, _⟩
  · cases h1; exact h2.symm
  · cases h1; rfl
/-- Where there is an element, the row is known by its block. -/
theorem Own.place {w wr : World} {a : Option Addr} {n c : Nat} {F : List Nat} (h : Own w wr (.slice a n c) F) (hF : 0 < F.length) : ∃ g, a = some ⟨g, 0, none⟩ ∧ w.heap.size + 1 ≤ g := by
  rcases h.2 with ⟨h1, h2⟩ | ⟨g, cap, cur, h1, h2, _⟩
  · omega
  · cases h1; exact ⟨g, rfl, h2⟩
theorem Own.cell {w wr : World} {g n c : Nat} {F : List Nat} (h : Own w wr (.slice (some ⟨g, 0, none⟩) n c) F) {j : Nat} (hj : j < F.length) : wr.cell? ⟨g, j, none⟩ = some (.int .i32 (F.getD j 0 : Nat)) := by
  have h1 := World.ownsRow.cells h (g := g) rfl j (val (F.getD j 0)) (by simp [hj])
  have e : (⟨g, 0, none⟩ : Addr).add j = ⟨g, j, none⟩ := by unfold Addr.add; split <;> simp_all
  rw [e] at h1
  exact h1

/-- What 'append(v, y)' leaves. -/
theorem Own.push {w W w1 : World} {a : Option Addr} {c g cap : Nat} {F : List Nat} {y : Nat}
    (h : w1.ownsRow (w.heap.size + 1) 21 1 (.slice (some ⟨g, 0, none⟩) (F.length + 1) cap) (F.length + 1) (F.map val ++ [.int .i32 (y : Int)])) (_ : W.grownBy w1 (Value.slice a F.length c).ownBlock) :
    Own w w1 (.slice (some ⟨g, 0, none⟩) (F.length + 1) cap) (F ++ [y]) := by
  unfold Own
  rw [List.length_append, List.map_append]
  exact h
theorem Apart.push {w W : World} {u v : Value} {U : List Nat} {g n cap : Nat} (h : Apart u v) (hu : Own w W u U) (hat : v.ownBlock = some g ∨ g = W.heap.size) : Apart u (.slice (some ⟨g, 0, none⟩) n cap) := by
  intro k hk e
  simp [Value.ownBlock] at e
  subst e
  rcases hat with h1 | h1
  · exact h _ hk h1
  · have := (World.ownsRow.lt hu _ hk).2; omega

structure St (w : World) (Nb D m : Nat) (wr : World) (fh fn : Nat → Int) (vF vN vL : Value) (F N L : List Nat) : Prop where
  gr : w.grownBy wr (some Nb)
  bh : Blk wr w.heap.size m fh
  bn : Blk wr Nb (2 ^ D) fn
  oF : Own w wr vF F
  oN : Own w wr vN N
  oL : Own w wr vL L
  aFN : Apart vF vN
  aFL : Apart vF vL
  aNL : Apart vN vL

section
variable {w wr w1 : World} {Nb D m : Nat} {fh fn fh' fn' : Nat → Int} {vF vN vL : Value} {F N L : List Nat}

theorem St.congr (h : St w Nb D m wr fh fn vF vN vL F N L) (e1 : ∀ j, j < m → fh j = fh' j) (e2 : ∀ j, j < 2 ^ D → fn j = fn' j) : St w Nb D m wr fh' fn' vF vN vL F N L :=
  ⟨h.gr, h.bh.congr e1, h.bn.congr e2, h.oF, h.oN, h.oL, h.aFN, h.aFL, h.aNL⟩

theorem St.drewN (h : St w Nb D m wr fh fn vF vN vL F N L) (n : Nat) : St w Nb D m (wr.drewN n) fh fn vF vN vL F N L :=
  ⟨gr_drewN h.gr n, h.bh, h.bn, h.oF, h.oN, h.oL, h.aFN, h.aFL, h.aNL⟩

theorem St.drew (h : St w Nb D m wr fh fn vF vN vL F N L) : St w Nb D m wr.drew fh fn vF vN vL F N L :=
  ⟨gr_drew h.gr, h.bh, h.bn, h.oF, h.oN, h.oL, h.aFN, h.aFL, h.aNL⟩

theorem St.setH (h : St w Nb D m wr fh fn vF vN vL F N L) (hN : Nb < w.heap.size) (j : Nat) (v : Int) : St w Nb D m (wr.setCell ⟨w.heap.size, j, none⟩ (.int .i32 v)) (upd fh j v) fn vF vN vL F N L :=
  ⟨gr_set h.gr _ (.inr (Nat.le_refl _)), h.bh.set j v, h.bn.setOther (by simp; omega) _, h.oF.setCell (Nat.le_refl _) _, h.oN.setCell (Nat.le_refl _) _, h.oL.setCell (Nat.le_refl _) _, h.aFN, h.aFL, h.aNL⟩

theorem St.setN (h : St w Nb D m wr fh fn vF vN vL F N L) (hN : Nb < w.heap.size) (j : Nat) (v : Int) : St w Nb D m (wr.setCell ⟨Nb, j, none⟩ (.int .i32 v)) fh (upd fn j v) vF vN vL F N L :=
  ⟨gr_set h.gr _ (.inl rfl), h.bh.setOther (by simp; omega) _, h.bn.set j v, h.oF.setCell (by simp; omega) _, h.oN.setCell (by simp; omega) _, h.oL.setCell (by simp; omega) _, h.aFN, h.aFL, h.aNL⟩

/-- The blocks that the state names are kept by what writes to another own row. -/
theorem St.base (h : St w Nb D m wr fh fn vF vN vL F N L) (hN : Nb < w.heap.size) {o : Obj} {v : Value} {U : List Nat} (hv : Own w wr v U) (hg : (wr.alloc o).grownBy w1 v.ownBlock) :
    w.grownBy w1 (some Nb) ∧ Blk w1 w.heap.size m fh ∧ Blk w1 Nb (2 ^ D) fn := by
  have hlt : ∀ k, v.ownBlock = some k → w.heap.size + 1 ≤ k := fun k hk => (World.ownsRow.lt hv k hk).1
  refine ⟨gr_trans (gr_alloc h.gr o) hg (fun k hk => .inr (by have := hlt k hk; omega)), (h.bh.alloc o).grown hg ?_, (h.bn.alloc o).grown hg ?_⟩
  · intro e; have := hlt _ e.symm; omega
  · intro e; have := hlt _ e.symm; omega

theorem St.pushF {a : Option Addr} {c g cap : Nat} {o : Obj} {y : Nat} (h : St w Nb D m wr fh fn (.slice a F.length c) vN vL F N L) (hN : Nb < w.heap.size)
    (hown : w1.ownsRow (w.heap.size + 1) 21 1 (.slice (some ⟨g, 0, none⟩) (F.length + 1) cap) (F.length + 1) (F.map val ++ [.int .i32 (y : Int)])) (hg : (wr.alloc o).grownBy w1 (Value.slice a F.length c).ownBlock)
    (hat : (Value.slice a F.length c).ownBlock = some g ∨ g = wr.heap.size + 1) : St w Nb D m w1 fh fn (.slice (some ⟨g, 0, none⟩) (F.length + 1) cap) vN vL (F ++ [y]) N L := by
  obtain ⟨b1, b2, b3⟩ := h.base hN h.oF hg
  have hat' : (Value.slice a F.length c).ownBlock = some g ∨ g = (wr.alloc o).heap.size := by simpa using hat
  exact ⟨b1, b2, b3, Own.push hown hg, (h.oN.alloc o).kept hg h.aFN.symm, (h.oL.alloc o).kept hg h.aFL.symm, (h.aFN.symm.push (h.oN.alloc o) hat').symm, (h.aFL.symm.push (h.oL.alloc o) hat').symm, h.aNL⟩

theorem St.pushN {a : Option Addr} {c g cap : Nat} {o : Obj} {y : Nat} (h : St w Nb D m wr fh fn vF (.slice a N.length c) vL F N L) (hN : Nb < w.heap.size)
    (hown : w1.ownsRow (w.heap.size + 1) 21 1 (.slice (some ⟨g, 0, none⟩) (N.length + 1) cap) (N.length + 1) (N.map val ++ [.int .i32 (y : Int)])) (hg : (wr.alloc o).grownBy w1 (Value.slice a N.length c).ownBlock)
    (hat : (Value.slice a N.length c).ownBlock = some g ∨ g = wr.heap.size + 1) : St w Nb D m w1 fh fn vF (.slice (some ⟨g, 0, none⟩) (N.length + 1) cap) vL F (N ++ [y]) L := by
  obtain ⟨b1, b2, b3⟩ := h.base hN h.oN hg
  have hat' : (Value.slice a N.length c).ownBlock = some g ∨ g = (wr.alloc o).heap.size := by simpa using hat
  exact ⟨b1, b2, b3, (h.oF.alloc o).kept hg h.aFN, Own.push hown hg, (h.oL.alloc o).kept hg h.aNL.symm, h.aFN.push (h.oF.alloc o) hat', h.aFL, (h.aNL.symm.push (h.oL.alloc o) hat').symm⟩

theorem St.pushL {a : Option Addr} {c g cap : Nat} {o : Obj} {y : Nat} (h : St w Nb D m wr fh fn vF vN (.slice a L.length c) F N L) (hN : Nb < w.heap.size)
    (hown : w1.ownsRow (w.heap.size + 1) 21 1 (.slice (some ⟨g, 0, none⟩) (L.length + 1) cap) (L.length + 1) (L.map val ++ [.int .i32 (y : Int)])) (hg : (wr.alloc o).grownBy w1 (Value.slice a L.length c).ownBlock)
    (hat : (Value.slice a L.length c).ownBlock = some g ∨ g = wr.heap.size + 1) : St w Nb D m w1 fh fn vF vN (.slice (some ⟨g, 0, none⟩) (L.length + 1) cap) F N (L ++ [y]) := by
  obtain ⟨b1, b2, b3⟩ := h.base hN h.oL hg
  have hat' : (Value.slice a L.length c).ownBlock = some g ∨ g = (wr.alloc o).heap.size := by simpa using hat
  exact ⟨b1, b2, b3, (h.oF.alloc o).kept hg h.aFL, (h.oN.alloc o).kept hg h.aNL, Own.push hown hg, h.aFN, h.aFL.push (h.oF.alloc o) hat', h.aNL.push (h.oN.alloc o) hat'⟩

theorem St.pushL' {a : Option Addr} {c g cap n : Nat} {o : Obj} {y : Nat} (hn : L.length = n) (h : St w Nb D m wr fh fn vF vN (.slice a n c) F N L) (hN : Nb < w.heap.size)
    (hown : w1.ownsRow (w.heap.size + 1) 21 1 (.slice (some ⟨g, 0, none⟩) (n + 1) cap) (n + 1) (L.map val ++ [.int .i32 (y : Int)])) (hg : (wr.alloc o).grownBy w1 (Value.slice a n c).ownBlock)
    (hat : (Value.slice a n c).ownBlock = some g ∨ g = wr.heap.size + 1) : St w Nb D m w1 fh fn vF vN (.slice (some ⟨g, 0, none⟩) (n + 1) cap) F N (L ++ [y]) := by
  subst hn; exact h.pushL hN hown hg hat

/-- 'next = next[:0]' -/
theorem Apart.same_block {u u' v : Value} (h : Apart u v) (e : u'.ownBlock = u.ownBlock) : Apart u' v := fun k hk => h k (by rw [← e]; exact hk)
theorem St.truncN {a : Option Addr} {n c : Nat} (h : St w Nb D m wr fh fn vF (.slice a n c) vL F N L) : St w Nb D m wr fh fn vF (.slice a 0 c) vL F [] L :=
  ⟨h.gr, h.bh, h.bn, h.oF, h.oN.trunc, h.oL, (h.aFN.symm.same_block (u' := .slice a 0 c) (by cases a <;> rfl)).symm, h.aFL, h.aNL.same_block (by cases a <;> rfl)⟩
theorem St.truncL {a : Option Addr} {n c : Nat} (h : St w Nb D m wr fh fn vF vN (.slice a n c) F N L) : St w Nb D m wr fh fn vF vN (.slice a 0 c) F N [] :=
  ⟨h.gr, h.bh, h.bn, h.oF, h.oN, h.oL.trunc, h.aFN, (h.aFL.symm.same_block (u' := .slice a 0 c) (by cases a <;> rfl)).symm, (h.aNL.symm.same_block (u' := .slice a 0 c) (by cases a <;> rfl)).symm⟩
/-- 'frontier, next = next, frontier' -/
theorem St.swap (h : St w Nb D m wr fh fn vF vN vL F N L) : St w Nb D m wr fh fn vN vF vL N F L :=
  ⟨h.gr, h.bh, h.bn, h.oN, h.oF, h.oL, h.aFN.symm, h.aNL, h.aFL⟩

end

/-- What heirs finds when it is called. -/
structure Env (w : World) (C Hb Nb Db D m : Nat) (lv : Int) (hs : Nat → Int) (H : List Nat) : Prop where
  c0 : w.cell? ⟨C, 0, none⟩ = some (.int .i64 D)
  c1 : w.cell? ⟨C, 1, none⟩ = some (.slice (some ⟨Hb, 0, none⟩) (2 ^ D) (2 ^ D))
  c6 : w.cell? ⟨C, 6, none⟩ = some (.slice (some ⟨Nb, 0, none⟩) (2 ^ D) (2 ^ D))
  hb : Blk w Hb (2 ^ D) hs
  nb : Blk w Nb (2 ^ D) (fun _ => 0)
  db : Blk w Db m (fun i => (H.getD i 0 : Nat))
  ne1 : C ≠ Nb
  ne2 : Hb ≠ Nb
  ne3 : Db ≠ Nb
  dim : D ≤ 12
  len : H.length = m
  held : HeldOk hs lv (2 ^ D) H
  other : Some' hs lv D
  pos : ∀ z, z < 2 ^ D → 0 ≤ hs z
  top : ∀ z, z < 2 ^ D → hs z ≤ 2147483647

section
variable {w wr : World} {C Hb Nb Db D m : Nat} {lv : Int} {hs : Nat → Int} {H : List Nat}
theorem Env.c0' (h : Env w C Hb Nb Db D m lv hs H) (g : w.grownBy wr (some Nb)) : wr.cell? ⟨C, 0, none⟩ = some (.int .i64 D) := g.cell h.c0 (by simpa using h.ne1)
theorem Env.c1' (h : Env w C Hb Nb Db D m lv hs H) (g : w.grownBy wr (some Nb)) : wr.cell? ⟨C, 1, none⟩ = some (.slice (some ⟨Hb, 0, none⟩) (2 ^ D) (2 ^ D)) := g.cell h.c1 (by simpa using h.ne1)
theorem Env.c6' (h : Env w C Hb Nb Db D m lv hs H) (g : w.grownBy wr (some Nb)) : wr.cell? ⟨C, 6, none⟩ = some (.slice (some ⟨Nb, 0, none⟩) (2 ^ D) (2 ^ D)) := g.cell h.c6 (by simpa using h.ne1)
theorem Env.hb' (h : Env w C Hb Nb Db D m lv hs H) (g : w.grownBy wr (some Nb)) {y : Nat} (hy : y < 2 ^ D) : wr.cell? ⟨Hb, y, none⟩ = some (.int .i32 (hs y)) := g.cell (h.hb.cell hy) (by simpa using h.ne2)
theorem Env.db' (h : Env w C Hb Nb Db D m lv hs H) (g : w.grownBy wr (some Nb)) {i : Nat} (hi : i < m) : wr.cell? ⟨Db, i, none⟩ = some (.int .i32 (H.getD i 0 : Nat)) := g.cell (h.db.cell hi) (by simpa using h.ne3)
theorem Env.ltC (h : Env w C Hb Nb Db D m lv hs H) : C < w.heap.size := World.block_lt_of_cell? w _ h.c0
theorem Env.ltN (h : Env w C Hb Nb Db D m lv hs H) : Nb < w.heap.size := h.nb.lt
theorem Env.ltH (h : Env w C Hb Nb Db D m lv hs H) : Hb < w.heap.size := h.hb.lt
theorem Env.ltD (h : Env w C Hb Nb Db D m lv hs H) : Db < w.heap.size := h.db.lt
theorem Env.pow (h : Env w C Hb Nb Db D m lv hs H) : 2 ^ D ≤ 4096 := Nat.pow_le_pow_right (n := 2) (by omega) h.dim
theorem Env.held_lt (h : Env w C Hb Nb Db D m lv hs H) {i : Nat} (hi : i < m) : H.getD i 0 < 2 ^ D ∧ hs (H.getD i 0) = lv := (h.held.2 _).1 (getD_mem (by rw [h.len]; exact hi))
theorem Env.m_le (h : Env w C Hb Nb Db D m lv hs H) : m ≤ 2 ^ D := by rw [← h.len]; exact nodup_len _ _ h.held.1 (fun x hx => ((h.held.2 x).1 hx).1)
end

theorem pow_le_12 {D : Nat} (hD : D ≤ 12) : 2 ^ D ≤ 4096 := Nat.pow_le_pow_right (n := 2) (by omega) hD

theorem xor_i32 (a b : Nat) (ha : a < 2147483648) (hb : b < 2147483648) : bits .xor .i32 (a : Int) (b : Int) = ((a ^^^ b : Nat) : Int) := by
  have hx : a ^^^ b < 2 ^ 31 := Nat.xor_lt_two_pow (by omega) (by omega)
  show IntKind.i32.wrap ((BitVec.ofInt 32 (a : Int) ^^^ BitVec.ofInt 32 (b : Int)).toNat : Int) = _
  rw [BitVec.toNat_xor, ofInt_u32 a (by omega), ofInt_u32 b (by omega)]
  generalize a ^^^ b = c at hx
  simp [IntKind.wrap, IntKind.bits, IntKind.signed]
  omega

theorem xor_i64 (a b : Nat) (ha : a < 2147483648) (hb : b < 2147483648) : bits .xor .i64 (a : Int) (b : Int) = ((a ^^^ b : Nat) : Int) := by
  have hx : a ^^^ b < 2 ^ 31 := Nat.xor_lt_two_pow (by omega) (by omega)
  show IntKind.i64.wrap ((BitVec.ofInt 64 (a : Int) ^^^ BitVec.ofInt 64 (b : Int)).toNat : Int) = _
  rw [BitVec.toNat_xor, ofInt_u64 a (by omega), ofInt_u64 b (by omega)]
  generalize a ^^^ b = c at hx
  simp [IntKind.wrap, IntKind.bits, IntKind.signed]
  omega

/-- 'x ^ 1<<d' as the walk spells it. -/
theorem xor_spell {x d D : Nat} (hx : x < 2 ^ D) (hd : d < D) (hD : D ≤ 12) : bits .xor .i32 (x : Int) (wrap32 ((2 : Int) ^ d)) = (fl x d : Nat) := by
  have h1 : (2 : Nat) ^ d < 2 ^ D := Nat.pow_lt_pow_right (by omega) hd
  have h2 := pow_le_12 hD
  have e : wrap32 ((2 : Int) ^ d) = ((2 ^ d : Nat) : Int) := by
    have e1 : ((2 : Int) ^ d) = ((2 ^ d : Nat) : Int) := by simp
    rw [e1]
    generalize (2 : Nat) ^ d = q at h1
    unfold wrap32
    omega
  rw [e, xor_i32 x (2 ^ d) (by omega) (by omega)]
  rfl
end Go.Proofs.Qxb6603178a.Hw
