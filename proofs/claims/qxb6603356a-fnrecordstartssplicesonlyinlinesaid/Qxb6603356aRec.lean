/-
  ZZRecordStartsFor: a constant text with the third argument spliced in.
-/
import Derived.Test.Qxb6603356aRows
import Derived.Test.Qxb6603356aPlain
import Derived.WalkKit
import Derived.WalkSpells
import Derived.WalkLawsBesides
namespace Go.Proofs.Qxb6603356a.Rs
open Go.RowKit Ph

theorem shape {X1 X2 X3 X4 X5 X6 X7 X8 X9 X10 q : ByteArray} : (X1 ++ (X2 ++ (X3 ++ q ++ X4) ++ X5) ++ X6 ++ X7 ++ X8 ++ X9 ++ X10) = (X1 ++ X2 ++ X3) ++ q ++ (X4 ++ X5 ++ X6 ++ X7 ++ X8 ++ X9 ++ X10) := by
  simp [ByteArray.append_assoc]

theorem grown_trans {a b c : World} (h : Grown a b) (g : Grown b c) : Grown a c :=
  ⟨World.keptBut_trans h.1 g.1, fun x => (g.2.1 x).trans (h.2.1 x), Nat.le_trans h.2.2 g.2.2⟩

theorem toList_append (a b : ByteArray) : (a ++ b).data.toList = a.data.toList ++ b.data.toList := by simp

/-- What the constant text is like. -/
def Around (A Z : ByteArray) : Prop := A.size + Z.size ≤ 100000 ∧ Fits A.data.toList Z.data.toList

theorem around {A Z : ByteArray} (h1 : A.size + Z.size ≤ 100000) (h2 : fitsB A.data.toList Z.data.toList = true) : Around A Z := ⟨h1, fits h2⟩

/-- The call answers the text with q in it. -/
def Splices (f : ByteArray → ByteArray) : Prop := ∀ (p r q o : ByteArray) (b : Bool) (w : World), q.size ≤ 4096 →
    Calls Try.prog 25 #[.string p, .string r, .string q, .string o, .bool b] w fun e w' => e = .returned (.string (f q)) ∧ Grown w w'

set_option maxHeartbeats 1000000 in
set_option maxRecDepth 100000 in
theorem rec_ex : ∃ f : ByteArray → ByteArray, Splices f ∧ ∃ A Z, (∀ q, f q = A ++ q ++ Z) ∧ Around A Z := by
  apply Exists.intro
  refine ⟨fun p r q o b w hq => ?_, ?_⟩
  · go_enter Try.func25, Try.ntmps25
    go_wp2
    go_ret
    refine ⟨rfl, ?_⟩
    exact (((Grown.refl _).alloc _ _).alloc _ _).alloc _ _
  · refine ⟨_, _, fun q => shape, ?_⟩
    refine around ?_ ?_
    · decide +kernel
    · decide +kernel

/-- .. for whoever wants the pieces. -/
theorem rec_any : ∃ A Z : ByteArray, Around A Z ∧ ∀ (p r q o : ByteArray) (b : Bool) (w : World), q.size ≤ 4096 →
    Calls Try.prog 25 #[.string p, .string r, .string q, .string o, .bool b] w fun e w' => e = .returned (.string (A ++ q ++ Z)) ∧ Grown w w' := by
  obtain ⟨f, h1, A, Z, h2, h3⟩ := rec_ex
  refine ⟨A, Z, h3, fun p r q o b w hq => ?_⟩
  have h := h1 p r q o b w hq
  rw [h2 q] at h
  exact h

end Go.Proofs.Qxb6603356a.Rs
