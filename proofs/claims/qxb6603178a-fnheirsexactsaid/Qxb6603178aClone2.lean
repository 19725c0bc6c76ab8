/-
  zzClone2, zzCoversFit: a slice of slices that came in.
-/
import Derived.Test.Qxb6603178aMem
namespace Go.Proofs.Qxb6603178a.Hw
open Go.RowKit

/-- One of the inner slices: nil has no length; its elements can be read. -/
def Inner (w : World) (a : Option Addr) (l c : Nat) : Prop := (a = none → l = 0 ∧ c = 0) ∧ ∃ f, Row w a l f

/-- A slice of slices: it is empty, or its elements lie in a row, each readable. -/
def Rows2 (w : World) (a : Option Addr) (len : Nat) : Prop :=
  len = 0 ∨ ∃ b off, a = some ⟨b, off, none⟩ ∧ ∀ j, j < len → ∃ aj lj cj, w.cell? ⟨b, off + j, none⟩ = some (.slice aj lj cj) ∧ lj ≤ cj ∧ cj ≤ maxLen ∧ Inner w aj lj cj

/-- A slice of int32 that came in: nil has no length; its elements can be read. -/
def SliceIn (w : World) (a : Option Addr) (l c : Nat) (f : Nat → Int) : Prop := (a = none → l = 0 ∧ c = 0) ∧ Row w a l f
/-- A slice of slices that came in. -/
def SlicesIn (w : World) (a : Option Addr) (l c : Nat) : Prop := (a = none → l = 0 ∧ c = 0) ∧ Rows2 w a l

/-- No inner slice is longer than m. -/
def Max2 (w : World) (a : Option Addr) (len m : Nat) : Prop :=
  ∀ b off j, a = some ⟨b, off, none⟩ → j < len → ∀ aj lj cj, w.cell? ⟨b, off + j, none⟩ = some (.slice aj lj cj) → lj ≤ m

theorem Inner.grown {w w' : World} {a : Option Addr} {l c : Nat} (h : Inner w a l c) (g : w.grownBy w' none) : Inner w' a l c := ⟨h.1, h.2.choose, h.2.choose_spec.grown0 g⟩

theorem Rows2.grown {w w' : World} {a : Option Addr} {len : Nat} (h : Rows2 w a len) (g : w.grownBy w' none) : Rows2 w' a len := by
  rcases h with h | ⟨b, off, rfl, hc⟩
  · exact .inl h
  · refine .inr ⟨b, off, rfl, fun j hj => ?_⟩
    obtain ⟨aj, lj, cj, h1, h2, h3, h4⟩ := hc j hj
    exact ⟨aj, lj, cj, g.cell h1 (by simp), h2, h3, h4.grown g⟩

theorem Max2.grown {w w' : World} {a : Option Addr} {len m : Nat} (h : Max2 w a len m) (hR : Rows2 w a len) (g : w.grownBy w' none) : Max2 w' a len m := by
  intro b off j e hj aj lj cj hc
  rcases hR with h0 | ⟨b', off', e', hR⟩
  · omega
  · rw [e] at e'
    cases e'
    obtain ⟨aj', lj', cj', h1, _⟩ := hR j hj
    have h2 := g.cell h1 (by simp)
    rw [hc] at h2
    cases h2
    exact h b off j e hj _ _ _ h1

/-- A call's end that is some slice. -/
def OutS (e : Ending) : Prop := ∃ a l c, e = .returned (.slice a l c)

set_option maxHeartbeats 400000 in
theorem clone2 (a : Option Addr) (len cap : Nat) (w : World) (hl : len ≤ 1048576) (hn : a = none → len = 0 ∧ cap = 0) (hr : Rows2 w a len) (hm : Max2 w a len 1048576) :
    Calls Try.prog 19 #[.slice a len cap] w fun e w' => OutS e ∧ w.grownBy w' none := by
  have hmk := fun w => run_make_row' (P := Try.prog) 28 22 (.slice none 0 0) 24 Try.underlying28 info22 rfl .i64 .i64 len (by omega) (by omega) w
  have heq := fun (w : World) (a : Option Addr) (l c : Nat) => Lib.run_eql_slice_nil (P := Try.prog) w 28 22 a l c 0 0 Try.underlying28
  cases a with
  | none =>
    obtain ⟨rfl, rfl⟩ := hn rfl
    clear hmk hr hm
    go_enter Try.func19, Try.ntmps19
    go_wp2
    go_ret
    exact ⟨⟨_, _, _, rfl⟩, gr_refl _ _⟩
  | some ad =>
    clear hn
    rcases hr with h0 | ⟨b, off, e, hc⟩
    · have h1 : len ≤ 0 := by omega
      clear h0 hm
      go_enter Try.func19, Try.ntmps19
      go_wp2
      clear hmk heq
      go_loop [4] (fun i => i = .int .i64 0) (fun _ => 0)
      case atStart => rfl
      case round =>
        subst hrel
        go_wp2
        go_ret
        exact ⟨⟨_, _, _, rfl⟩, World.grownBy_alloc _ _ _⟩
    · cases e
      have HM : Hid (Max2 w (some ⟨b, off, none⟩) len 1048576) := hm
      clear hm
      go_enter Try.func19, Try.ntmps19
      go_wp2
      clear hmk heq
      go_loopw [4] (fun i wr => ∃ (k : Nat) (g : Nat → Value), k ≤ len ∧ i = .int .i64 k ∧ wr.rowIs w.heap.size 22 len g ∧ w.grownBy wr none) (fun i _ => len - (intOf i).toNat)
      case atStart => exact ⟨0, _, by omega, rfl, World.rowIs_made w _ len 22, World.grownBy_alloc _ _ _⟩
      case round =>
        obtain ⟨k, g, hk, rfl, hB, hG⟩ := hrel
        have HB : Hid (wr.rowIs w.heap.size 22 len g) := hB
        have HG : Hid (w.grownBy wr none) := hG
        by_cases hlt : k < len
        · obtain ⟨aj, lj, cj, h1, h2, h3, h4⟩ := hc k hlt
          have hlj : lj ≤ 1048576 := HM.out b off k rfl hlt aj lj cj h1
          have hcell := hG.cell h1 (by simp)
          have h5 := h4.grown hG
          have H5 : Hid (Inner wr aj lj cj) := h5
          clear hc h1 h3 h4 h5 hB hG
          go_wp2_with fail
          refine (clone32 aj lj cj H5.out.2.choose _ hlj H5.out.1 H5.out.2.choose_spec).mono ?_
          rintro e w1 ⟨⟨v, rfl, hv⟩, hg1⟩
          have HB1 : Hid (w1.rowIs w.heap.size 22 len g) := World.rowIs.of_block HB.out (hg1.block _ (World.rowIs.lt HB.out) (by simp))
          have HG1 : Hid (w.grownBy w1 none) := gr_trans HG.out hg1 (fun k e => by cases e)
          have hcw := World.rowIs.cell HB1.out hlt
          have hfz := World.rowIs.frozen HB1.out k
          clear hg1
          have hvv : ∃ a' l' c', v = .slice a' l' c' := by
            rcases hv with ⟨_, rfl, _⟩ | ⟨rfl, _⟩
            · exact ⟨_, _, _, rfl⟩
            · exact ⟨_, _, _, rfl⟩
          clear hv
          obtain ⟨a', l', c', rfl⟩ := hvv
          go_wp2
          go_roundw
          case rel =>
            exact ⟨k + 1, _, by omega, by go_num, HB1.out.set k _, gr_set HG1.out _ (.inr (Nat.le_refl _))⟩
          case measure => simp [intOf]; omega
        · clear hc hB hG
          go_wp2
          go_ret
          exact ⟨⟨_, _, _, rfl⟩, HG.out⟩

end Go.Proofs.Qxb6603178a.Hw
