/-
  Memory: blocks that a call makes or may write, and what stays. Over any program.
-/
import Derived.Test.Qxb6603178aSmall
import Derived.Deep.OwnRows
namespace Go.Proofs.Qxb6603178a.Hw
open Go.RowKit

theorem gr_refl (w : World) (r : Option Nat) : w.grownBy w r := ⟨rfl, rfl, rfl, Nat.le_refl _, fun _ _ _ => rfl⟩

/-- One behind the other: the second writes to the same row, or to nothing that was there at first. -/
theorem gr_trans {w w1 w2 : World} {r r2 : Option Nat} (h : w.grownBy w1 r) (g : w1.grownBy w2 r2) (hr : ∀ k, r2 = some k → r = some k ∨ w.heap.size ≤ k) : w.grownBy w2 r := by
  refine ⟨g.os.trans h.os, g.tape.trans h.tape, g.output.trans h.output, Nat.le_trans h.size g.size, fun k hk hne => ?_⟩
  refine (g.block k (Nat.lt_of_lt_of_le hk h.size) fun e => ?_).trans (h.block k hk hne)
  rcases hr k e.symm with h1 | h1
  · exact hne h1.symm
  · omega

theorem gr_set {w w1 : World} {r : Option Nat} (h : w.grownBy w1 r) {a : Addr} (v : Value) (ha : r = some a.block ∨ w.heap.size ≤ a.block) : w.grownBy (w1.setCell a v) r :=
  gr_trans h (r2 := some a.block) ⟨rfl, rfl, rfl, by simp, fun k _ hne => Below.heap_setCell w1 a v k (fun e => hne (by rw [e]))⟩ (fun k e => by cases e; exact ha)

theorem gr_alloc {w w1 : World} {r : Option Nat} (h : w.grownBy w1 r) (o : Obj) : w.grownBy (w1.alloc o) r :=
  gr_trans h (World.grownBy_alloc w1 o none) (fun k e => by cases e)

theorem gr_drew {w w1 : World} {r : Option Nat} (h : w.grownBy w1 r) : w.grownBy w1.drew r := ⟨h.os, h.tape, h.output, h.size, h.block⟩
theorem gr_drewN {w w1 : World} {r : Option Nat} (h : w.grownBy w1 r) (n : Nat) : w.grownBy (w1.drewN n) r := ⟨h.os, h.tape, h.output, h.size, h.block⟩

/-- From 'only new blocks' to 'Below'. -/
theorem gr_below {w w1 : World} (h : w.grownBy w1 none) : Below w.heap.size w w1 :=
  ⟨h.os, h.tape, h.output, h.size, fun k hk => h.block k hk (by simp)⟩

/-- A block of int32. -/
def Blk (w : World) (b n : Nat) (f : Nat → Int) : Prop := w.rowIs b 21 n (fun j => .int .i32 (f j))

theorem Blk.cell {w : World} {b n : Nat} {f : Nat → Int} (h : Blk w b n f) {j : Nat} (hj : j < n) : w.cell? ⟨b, j, none⟩ = some (.int .i32 (f j)) := World.rowIs.cell h hj
theorem Blk.frozen {w : World} {b n : Nat} {f : Nat → Int} (h : Blk w b n f) (j : Nat) : w.frozen? ⟨b, j, none⟩ = false := World.rowIs.frozen h j
theorem Blk.lt {w : World} {b n : Nat} {f : Nat → Int} (h : Blk w b n f) : b < w.heap.size := World.rowIs.lt h
theorem Blk.of {w w' : World} {b n : Nat} {f : Nat → Int} (h : Blk w b n f) (e : w'.heap[b]? = w.heap[b]?) : Blk w' b n f := World.rowIs.of_block h e
theorem Blk.alloc {w : World} {b n : Nat} {f : Nat → Int} (h : Blk w b n f) (o : Obj) : Blk (w.alloc o) b n f := World.rowIs.alloc h o
theorem Blk.setOther {w : World} {b n : Nat} {f : Nat → Int} (h : Blk w b n f) {a : Addr} (ha : b ≠ a.block) (v : Value) : Blk (w.setCell a v) b n f := World.rowIs.setOther h ha v
theorem Blk.congr {w : World} {b n : Nat} {f g : Nat → Int} (h : Blk w b n f) (e : ∀ j, j < n → f j = g j) : Blk w b n g := World.rowIs.congr h (fun j hj => by rw [e j hj])
theorem Blk.grown {w w' : World} {b n : Nat} {f : Nat → Int} {r : Option Nat} (h : Blk w b n f) (g : w.grownBy w' r) (hne : some b ≠ r) : Blk w' b n f := h.of (g.block b h.lt hne)
theorem Blk.set {w : World} {b n : Nat} {f : Nat → Int} (h : Blk w b n f) (j : Nat) (v : Int) : Blk (w.setCell ⟨b, j, none⟩ (.int .i32 v)) b n (fun i => if i = j then v else f i) :=
  World.rowIs.congr (World.rowIs.set h j (.int .i32 v)) (fun i _ => by dsimp only; split <;> rfl)
theorem Blk.row {w : World} {b n : Nat} {f : Nat → Int} (h : Blk w b n f) (hb : ∀ j, j < n → -2147483648 ≤ f j ∧ f j ≤ 2147483647) : Row w (some ⟨b, 0, none⟩) n f :=
  .inr ⟨b, 0, rfl, fun j hj => by rw [Nat.zero_add]; exact h.cell hj, hb⟩

theorem Blk.made (w : World) (n : Nat) : Blk (w.alloc (.cells (madeCells #[.int .i32 0] n) 21)) w.heap.size n (fun _ => 0) := World.rowIs_made w _ n 21

/-- A slice reads on as it did where its block has not turned. -/
theorem Row.grown {w w' : World} {a : Option Addr} {len : Nat} {f : Nat → Int} {r : Option Nat} (h : Row w a len f) (g : w.grownBy w' r) (hr : ∀ b off sp, a = some ⟨b, off, sp⟩ → some b ≠ r) : Row w' a len f := by
  rcases h with h | ⟨b, off, rfl, hc, hb⟩
  · exact .inl h
  · refine .inr ⟨b, off, rfl, fun j hj => ?_, hb⟩
    exact g.cell (hc j hj) (hr b off none rfl)

theorem Row.grown0 {w w' : World} {a : Option Addr} {len : Nat} {f : Nat → Int} (h : Row w a len f) (g : w.grownBy w' none) : Row w' a len f := h.grown g (fun _ _ _ _ => by simp)

theorem Row.drewN {w : World} {a : Option Addr} {len : Nat} {f : Nat → Int} (h : Row w a len f) (n : Nat) : Row (w.drewN n) a len f := h

theorem info21 : (Try.prog.info? 21).map (fun i => (i.zero, i.size, i.bytes)) = some (some (.int .i32 0), 1, 4) := by kernel_rfl
theorem info22 : (Try.prog.info? 22).map (fun i => (i.zero, i.size, i.bytes)) = some (some (.slice none 0 0), 1, 24) := by kernel_rfl
theorem info4 : (Try.prog.info? 4).map (fun i => (i.zero, i.size, i.bytes)) = some (some (.bool false), 1, 1) := by kernel_rfl

/-- What zzClone32 hands back: nil for nil; else a new block with the same numbers. -/
def Cloned (w w' : World) (a : Option Addr) (len : Nat) (f : Nat → Int) (v : Value) : Prop :=
  (a = none ∧ v = .slice none 0 0 ∧ w = w') ∨ (v = .slice (some ⟨w.heap.size, 0, none⟩) len len ∧ Blk w' w.heap.size len f)

set_option maxHeartbeats 400000 in
theorem clone32 (a : Option Addr) (len cap : Nat) (f : Nat → Int) (w : World) (hl : len ≤ 1048576) (hn : a = none → len = 0 ∧ cap = 0) (hr : Row w a len f) :
    Calls Try.prog 10 #[.slice a len cap] w fun e w' => (∃ v, e = .returned v ∧ Cloned w w' a len f v) ∧ w.grownBy w' none := by
  have hmk := fun w => run_make_row' (P := Try.prog) 22 21 (.int .i32 0) 4 Try.underlying22 info21 rfl .i64 .i64 len (by omega) (by omega) w
  have heq := fun (w : World) (a : Option Addr) (l c : Nat) => Lib.run_eql_slice_nil (P := Try.prog) w 22 21 a l c 0 0 Try.underlying22
  cases a with
  | none =>
    obtain ⟨rfl, rfl⟩ := hn rfl
    clear hmk hr
    go_enter Try.func10, Try.ntmps10
    go_wp2
    go_ret
    exact ⟨⟨_, rfl, .inl ⟨rfl, rfl, rfl⟩⟩, gr_refl _ _⟩
  | some ad =>
    clear hn
    rcases hr with h0 | ⟨b, off, e, hc, hb⟩
    · have h1 : len ≤ 0 := by omega
      clear h0
      go_enter Try.func10, Try.ntmps10
      go_wp2
      clear hmk heq
      go_loop [4] (fun i => i = .int .i64 0) (fun _ => 0)
      case atStart => rfl
      case round =>
        subst hrel
        go_wp2
        go_ret
        exact ⟨⟨_, rfl, .inr ⟨rfl, Blk.congr (Blk.made w len) (fun j hj => by omega)⟩⟩, World.grownBy_alloc _ _ _⟩
    · cases e
      go_enter Try.func10, Try.ntmps10
      go_wp2
      clear hmk heq
      go_loopw [4] (fun i wr => ∃ k : Nat, k ≤ len ∧ i = .int .i64 k ∧ Blk wr w.heap.size len (fun j => if j < k then f j else 0) ∧ w.grownBy wr none) (fun i _ => len - (intOf i).toNat)
      case atStart => exact ⟨0, by omega, rfl, Blk.congr (Blk.made w len) (fun j hj => by simp), World.grownBy_alloc _ _ _⟩
      case round =>
        obtain ⟨k, hk, rfl, hB, hG⟩ := hrel
        by_cases hlt : k < len
        · have hcell := hG.cell (hc k hlt) (by simp)
          have hcw := hB.cell hlt
          have hfz := hB.frozen k
          have HB : Hid (Blk wr w.heap.size len (fun j => if j < k then f j else 0)) := hB
          have HG : Hid (w.grownBy wr none) := hG
          clear hc hb hB hG
          go_wp2
          go_roundw
          case rel =>
            refine ⟨k + 1, by omega, by go_num, (HB.out.set k (f k)).congr (fun j hj => ?_), gr_set HG.out _ (.inr (Nat.le_refl _))⟩
            by_cases e : j = k
            · subst e; simp
            · by_cases e2 : j < k
              · rw [if_neg e, if_pos e2, if_pos (by omega)]
              · rw [if_neg e, if_neg e2, if_neg (by omega)]
          case measure => simp [intOf]; omega
        · have HB : Hid (Blk wr w.heap.size len (fun j => if j < k then f j else 0)) := hB
          have HG : Hid (w.grownBy wr none) := hG
          clear hc hb hB hG
          go_wp2
          go_ret
          exact ⟨⟨_, rfl, .inr ⟨rfl, HB.out.congr (fun j hj => by rw [if_pos (by omega)])⟩⟩, HG.out⟩

end Go.Proofs.Qxb6603178a.Hw
