/-
  From a slice that can be read to what the walks are told of it.
-/
import Derived.Test.Qxb6603178aSetup
import Derived.ProofKit
import Derived.OpenShut
import Derived.Deep.Matrix
namespace Go.Proofs.Qxb6603178a.Hw
open Go.ChangeShapes Go.WideShapes Go.ChangeAt Go.RowKit Cube

theorem addr_at {w : World} {a : Addr} {n : Nat} {g : Nat → Value} (hn : 0 < n) (h : ∀ i, i < n → w.cell? (a.add i) = some (g i)) : ∃ b off, a = ⟨b, off, none⟩ ∧ ∀ i, i < n → w.cell? ⟨b, off + i, none⟩ = some (g i) := by
  obtain ⟨b, off, spot⟩ := a
  have hspot : spot = none := by simpa [Addr.add] using World.cell?_spot (h 0 hn)
  subst hspot
  exact ⟨b, off, rfl, fun i hi => by rw [← add_plain]; exact h i hi⟩

theorem row_of {w : World} {a : Addr} {l c : Nat} {zs : List Int} (hl : l ≤ c) (hz : zs.length = c) (hc : ∀ i, i < zs.length → w.cell? (a.add i) = some (.int .i32 (zs.getD i 0))) (hw : ∀ n ∈ zs, (Lit.int .i32 n).wf = true) :
    Row w (some a) l (fun i => zs.getD i 0) := by
  by_cases h0 : l = 0
  · exact .inl h0
  · obtain ⟨b, off, rfl, h1⟩ := addr_at (g := fun i => .int .i32 (zs.getD i 0)) (show 0 < zs.length by omega) hc
    refine .inr ⟨b, off, rfl, fun j hj => h1 j (by omega), fun j hj => ?_⟩
    have hm : zs.getD j 0 ∈ zs := by
      rw [List.getD_eq_getElem?_getD, List.getElem?_eq_getElem (show j < zs.length by omega)]; simp
    exact bounds_i32 (hw _ hm)

theorem slice_in {H : Type} {enc : TypeId × Value → H} {W : World} {base : Nat} {held : Bool} {fuel : Nat} {a : Option Addr} {l c : Nat} {x : DataW H × List MemPlace}
    (hf : DataW.trod enc Try.prog W base (fun _ => true) held fuel 22 [.slice a l c] = some x) : ∃ f, SliceIn W a l c f := by
  rcases open_ints Try.underlying22 Try.underlying21 (by kernel_rfl) hf with ⟨hcs, _⟩ | ⟨a', l', c', zs, hcs, _, hl, hm, hz, _, hcell, hwz⟩
  · simp at hcs
    obtain ⟨rfl, rfl, rfl⟩ := hcs
    exact ⟨fun _ => 0, fun _ => ⟨rfl, rfl⟩, .inl rfl⟩
  · simp at hcs
    obtain ⟨rfl, rfl, rfl⟩ := hcs
    refine ⟨fun i => zs.getD i 0, (fun h => by cases h), ?_⟩
    simp only [if_true] at hz
    exact row_of hl hz hcell hwz

theorem slices_in {H : Type} {enc : TypeId × Value → H} {W : World} {base : Nat} {held : Bool} {fuel : Nat} {a : Option Addr} {l c : Nat} {x : DataW H × List MemPlace}
    (hf : DataW.trod enc Try.prog W base (fun _ => true) held fuel 28 [.slice a l c] = some x) : SlicesIn W a l c := by
  rcases Deep.open_int_rows Try.underlying28 Try.underlying22 Try.underlying21 (by kernel_rfl) (by kernel_rfl) hf with ⟨hcs, _⟩ | ⟨a', l', c', A, L, C, Z, hcs, _, hl, hm, _, hr⟩
  · simp at hcs
    obtain ⟨rfl, rfl, rfl⟩ := hcs
    exact ⟨fun _ => ⟨rfl, rfl⟩, .inl rfl⟩
  · simp at hcs
    obtain ⟨rfl, rfl, rfl⟩ := hcs
    refine ⟨(fun h => by cases h), ?_⟩
    by_cases h0 : l = 0
    · exact .inl h0
    · obtain ⟨b, off, rfl, h1⟩ := addr_at (g := fun r => .slice (A r) (L r) (C r)) (show 0 < c by omega) (fun i hi => (hr i hi).1)
      refine .inr ⟨b, off, rfl, fun j hj => ?_⟩
      obtain ⟨_, r1, r2, r3, r4, r5, r6⟩ := hr j (by omega)
      refine ⟨A j, L j, C j, h1 j (by omega), r1, r2, ?_⟩
      cases hA : A j with
      | none => exact ⟨fun _ => by have := r5 hA; omega, fun _ => 0, .inl (by have := r5 hA; omega)⟩
      | some a' =>
        refine ⟨(fun h => by cases h), fun i => (Z j).getD i 0, row_of r1 r3 ?_ r4⟩
        rw [r3]
        exact (r6 a' hA).2

end Go.Proofs.Qxb6603178a.Hw
