/-
  heirs at every held, and its wrapper; from what zzHeldIsLeavers says to what heirs asks.
-/
import Derived.Test.Qxb6603178aHeirs
namespace Go.Proofs.Qxb6603178a.Cube

/-- The held positions as a list. -/
def heldList (f : Nat → Int) (m : Nat) : List Nat := (List.range m).map (fun i => (f i).toNat)
theorem heldList_len (f : Nat → Int) (m : Nat) : (heldList f m).length = m := by simp [heldList]
theorem heldList_at {f : Nat → Int} {m i : Nat} (h : i < m) : (heldList f m).getD i 0 = (f i).toNat := by
  unfold heldList
  rw [List.getD_eq_getElem?_getD, List.getElem?_map, List.getElem?_range h]; rfl

theorem cnt_all {hs : Nat → Int} {lv : Int} {n : Nat} (h : ∀ z, z < n → hs z = lv) : cnt hs lv n = n := by
  induction n with
  | zero => rfl
  | succ n ih => rw [cnt_yes (h n (by omega)), ih (fun z hz => h z (by omega))]

theorem some_other {hs : Nat → Int} {lv : Int} {n m : Nat} (h : cnt hs lv n = m) (hm : m < n) : ∃ z, z < n ∧ hs z ≠ lv := by
  refine Classical.byContradiction fun hno => ?_
  have := cnt_all (hs := hs) (lv := lv) (n := n) (fun z hz => Classical.byContradiction fun hne => hno ⟨z, hz, hne⟩)
  omega

theorem nodup_map_range {f : Nat → Nat} {m : Nat} (h : ∀ i j, i < j → j < m → f i ≠ f j) : ((List.range m).map f).Nodup := by
  induction m with
  | zero => simp
  | succ m ih =>
    rw [List.range_succ, List.map_append, List.nodup_append]
    refine ⟨ih (fun i j hij hj => h i j hij (by omega)), by simp, ?_⟩
    intro a ha b hb
    rw [List.mem_map] at ha
    obtain ⟨i, hi, rfl⟩ := ha
    simp at hb
    subst hb
    rw [List.mem_range] at hi
    exact h i m hi (by omega)

theorem nodup_rev {l : List Nat} (h : l.Nodup) : l.reverse.Nodup := by
  induction l with
  | nil => simp
  | cons a t ih =>
    rw [List.nodup_cons] at h
    rw [List.reverse_cons, List.nodup_append]
    refine ⟨ih h.2, by simp, ?_⟩
    intro x hx y hy e
    simp at hy
    subst hy
    subst e
    exact h.1 (List.mem_reverse.1 hx)

theorem heldOk_reverse {hs : Nat → Int} {lv : Int} {n : Nat} {H : List Nat} (h : HeldOk hs lv n H) : HeldOk hs lv n H.reverse :=
  ⟨nodup_rev h.1, fun x => by rw [List.mem_reverse]; exact h.2 x⟩

theorem reverse_at {H : List Nat} {m i : Nat} (hl : H.length = m) (hi : i < m) : H.reverse.getD i 0 = H.getD (m - 1 - i) 0 := by
  rw [List.getD_eq_getElem?_getD, List.getD_eq_getElem?_getD, List.getElem?_reverse (by omega), hl]

end Go.Proofs.Qxb6603178a.Cube

namespace Go.Proofs.Qxb6603178a.Hw
open Go.RowKit Cube

theorem good_heldOk {hs : Nat → Int} {lv : Int} {n : Nat} {f : Nat → Int} {m : Nat} (h : Good hs lv n f m) (hc : cnt hs lv n = m) : HeldOk hs lv n (heldList f m) := by
  refine heldOk ?_ ?_ (by rw [heldList_len]; exact hc)
  · refine nodup_map_range (fun i j hij hj e => ?_)
    obtain ⟨x, h1, _⟩ := h.1 i (by omega)
    obtain ⟨y, h2, _⟩ := h.1 j hj
    rw [h1, h2] at e
    simp at e
    exact h.2 i j hij hj (by rw [h1, h2, e])
  · intro x hx
    unfold heldList at hx
    rw [List.mem_map] at hx
    obtain ⟨i, hi, rfl⟩ := hx
    rw [List.mem_range] at hi
    obtain ⟨y, h1, h2, h3⟩ := h.1 i hi
    rw [h1]
    simpa using ⟨h2, h3⟩

/-- What heirs finds when it is called, but for the held ones. -/
structure Env0 (w : World) (C Hb Nb D m : Nat) (lv : Int) (hs : Nat → Int) (H : List Nat) : Prop where
  c0 : w.cell? ⟨C, 0, none⟩ = some (.int .i64 D)
  c1 : w.cell? ⟨C, 1, none⟩ = some (.slice (some ⟨Hb, 0, none⟩) (2 ^ D) (2 ^ D))
  c6 : w.cell? ⟨C, 6, none⟩ = some (.slice (some ⟨Nb, 0, none⟩) (2 ^ D) (2 ^ D))
  hb : Blk w Hb (2 ^ D) hs
  nb : Blk w Nb (2 ^ D) (fun _ => 0)
  ne1 : C ≠ Nb
  ne2 : Hb ≠ Nb
  dim : D ≤ 12
  len : H.length = m
  held : HeldOk hs lv (2 ^ D) H
  other : Some' hs lv D
  pos : ∀ z, z < 2 ^ D → 0 ≤ hs z
  top : ∀ z, z < 2 ^ D → hs z ≤ 2147483647

/-- What heirs leaves. -/
def Left (w w' : World) (Nb D m : Nat) (lv : Int) (hs : Nat → Int) (H : List Nat) : Prop :=
  Blk w' w.heap.size m (fun i => heirOf hs lv D (H.getD i 0)) ∧ Blk w' Nb (2 ^ D) (fun _ => 0) ∧ w.grownBy w' (some Nb)

set_option maxHeartbeats 1000000 in
set_option maxRecDepth 100000 in
theorem heirs_none (w : World) (C m c : Nat) (lv : Int) (a : Option Addr) (hm : m ≤ 0) :
    Calls Try.prog 29 #[.pointer (some ⟨C, 0, none⟩), .int .i32 lv, .slice a m c] w fun e w' =>
      e = .returned (.slice (some ⟨w.heap.size, 0, none⟩) m m) ∧ Blk w' w.heap.size m (fun _ => 0) ∧ w.grownBy w' none := by
  have hmk := fun w => run_make_row' (P := Try.prog) 22 21 (.int .i32 0) 4 Try.underlying22 info21 rfl .i64 .i64 m (by omega) (by omega) w
  go_enter Try.func29, Try.ntmps29
  go_wp2
  clear hmk
  go_loop [8, 34] (fun f i => f = .slice none 0 0 ∧ i = .int .i64 0) (fun _ _ => 0)
  case atStart => exact ⟨rfl, rfl⟩
  case round =>
    obtain ⟨rfl, rfl⟩ := hrel
    go_wp2
    go_loop [8, 14, 15] (fun f n l => f = .slice none 0 0) (fun _ _ _ => 0)
    case atStart => rfl
    case round =>
      subst hrel
      go_wp2
      go_loop [232] (fun i => i = .int .i64 0) (fun _ => 0)
      case atStart => rfl
      case round =>
        subst hrel
        go_wp2
        go_ret
        exact ⟨rfl, Blk.made w m, World.grownBy_alloc _ _ _⟩

theorem heirs_all (w : World) (C Hb Nb D m : Nat) (lv : Int) (hs : Nat → Int) (H : List Nat) (a : Option Addr) (hE : Env0 w C Hb Nb D m lv hs H)
    (ha : m = 0 ∨ ∃ Db, a = some ⟨Db, 0, none⟩ ∧ Blk w Db m (fun i => (H.getD i 0 : Nat)) ∧ Db ≠ Nb) :
    Calls Try.prog 29 #[.pointer (some ⟨C, 0, none⟩), .int .i32 lv, .slice a m m] w fun e w' =>
      e = .returned (.slice (some ⟨w.heap.size, 0, none⟩) m m) ∧ Left w w' Nb D m lv hs H := by
  by_cases hm : m = 0
  · refine (heirs_none w C m m lv a (by omega)).mono fun e w' ⟨he, h1, h2⟩ => ⟨he, h1.congr (fun j hj => by omega), hE.nb.grown h2 (by simp), ?_⟩
    exact ⟨h2.os, h2.tape, h2.output, h2.size, fun k hk _ => h2.block k hk (by simp)⟩
  · rcases ha with ha | ⟨Db, rfl, h1, h2⟩
    · exact absurd ha hm
    · exact heirs_any w C Hb Nb Db D m lv hs H (by omega) ⟨hE.c0, hE.c1, hE.c6, hE.hb, hE.nb, h1, hE.ne1, hE.ne2, h2, hE.dim, hE.len, hE.held, hE.other, hE.pos, hE.top⟩

set_option maxHeartbeats 400000 in
theorem zzheirs (w : World) (C Hb Nb D m : Nat) (lv : Int) (hs : Nat → Int) (H : List Nat) (a : Option Addr) (hE : Env0 w C Hb Nb D m lv hs H)
    (ha : m = 0 ∨ ∃ Db, a = some ⟨Db, 0, none⟩ ∧ Blk w Db m (fun i => (H.getD i 0 : Nat)) ∧ Db ≠ Nb) :
    Calls Try.prog 24 #[.pointer (some ⟨C, 0, none⟩), .int .i32 lv, .slice a m m] w fun e w' =>
      e = .returned (.slice (some ⟨w.heap.size, 0, none⟩) m m) ∧ Left w w' Nb D m lv hs H := by
  have HC : Hid (Env0 w C Hb Nb D m lv hs H) := hE
  have HA : Hid (m = 0 ∨ ∃ Db, a = some ⟨Db, 0, none⟩ ∧ Blk w Db m (fun i => (H.getD i 0 : Nat)) ∧ Db ≠ Nb) := ha
  clear hE ha
  go_enter Try.func24, Try.ntmps24
  go_wp2_with fail
  refine (heirs_all w C Hb Nb D m lv hs H a HC.out HA.out).mono ?_
  rintro e w' ⟨rfl, hl⟩
  have HL : Hid (Left w w' Nb D m lv hs H) := hl
  clear hl
  go_wp2
  go_ret
  exact ⟨rfl, HL.out⟩

end Go.Proofs.Qxb6603178a.Hw
