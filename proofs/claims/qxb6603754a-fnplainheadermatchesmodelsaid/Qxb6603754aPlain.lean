/-
  PLAIN: what a header is, and its value. No Go in sight.
-/
namespace Go.Proofs.Qxb6603754a.Hd

/-- The value of the first k digits behind the first byte. -/
def V (f : Nat → Int) : Nat → Int
  | 0 => 0
  | k + 1 => V f k * 10 + (f (k + 1) - 48)

def digits (f : Nat → Int) (j : Nat) : Prop := ∀ i, 1 ≤ i → i < j → 48 ≤ f i ∧ f i ≤ 57

/-- A header that ends ahead of place j + 2. -/
def Good (f : Nat → Int) (n : Nat) (kind : Int) (j : Nat) : Prop :=
  2 ≤ j ∧ j ≤ 10 ∧ j + 1 < n ∧ f 0 = kind ∧ digits f j ∧ f j = 13 ∧ f (j + 1) = 10

def Ans (f : Nat → Int) (n : Nat) (kind : Int) (l m : Int) (ok : Bool) : Prop :=
  (∃ j, Good f n kind j ∧ l = V f (j - 1) ∧ m = (j : Int) + 2 ∧ ok = true) ∨ ((¬ ∃ j, Good f n kind j) ∧ l = 0 ∧ m = 0 ∧ ok = false)

theorem Good.one {f : Nat → Int} {n : Nat} {kind : Int} {i j : Nat} (h : Good f n kind i) (g : Good f n kind j) : i = j := by
  obtain ⟨a1, _, _, _, a5, a6, _⟩ := h
  obtain ⟨b1, _, _, _, b5, b6, _⟩ := g
  rcases Nat.lt_trichotomy i j with h | h | h
  · have := b5 i (by omega) h; omega
  · exact h
  · have := a5 j (by omega) h; omega

theorem Ans.one {f : Nat → Int} {n : Nat} {kind l l' m m' : Int} {ok ok' : Bool} (h : Ans f n kind l m ok) (g : Ans f n kind l' m' ok') : l = l' ∧ m = m' ∧ ok = ok' := by
  rcases h with ⟨i, h1, rfl, rfl, rfl⟩ | ⟨h1, rfl, rfl, rfl⟩
  · rcases g with ⟨j, g1, rfl, rfl, rfl⟩ | ⟨g1, _⟩
    · have e := h1.one g1
      subst e
      exact ⟨rfl, rfl, rfl⟩
    · exact absurd ⟨i, h1⟩ g1
  · rcases g with ⟨j, g1, _⟩ | ⟨_, rfl, rfl, rfl⟩
    · exact absurd ⟨j, g1⟩ h1
    · exact ⟨rfl, rfl, rfl⟩

theorem V_bd {f : Nat → Int} {k : Nat} (h : digits f (k + 1)) : 0 ≤ V f k ∧ V f k + 1 ≤ (10 : Int) ^ k := by
  induction k with
  | zero => simp [V]
  | succ k ih =>
    have h1 := ih (fun i a b => h i a (by omega))
    have h2 := h (k + 1) (by omega) (by omega)
    rw [V, Int.pow_succ]
    omega

theorem pow_le_9 {k : Nat} (h : k ≤ 9) : (10 : Int) ^ k ≤ 1000000000 := by
  have : k = 0 ∨ k = 1 ∨ k = 2 ∨ k = 3 ∨ k = 4 ∨ k = 5 ∨ k = 6 ∨ k = 7 ∨ k = 8 ∨ k = 9 := by omega
  rcases this with rfl | rfl | rfl | rfl | rfl | rfl | rfl | rfl | rfl | rfl <;> decide

theorem digits_snoc {f : Nat → Int} {j : Nat} (h : digits f j) (hj : 48 ≤ f j ∧ f j ≤ 57) : digits f (j + 1) := by
  intro i a b
  by_cases e : i = j
  · subst e; exact hj
  · exact h i a (by omega)

/-- No header: the run of digits ends at j, and what follows is no CR LF, or comes too early, or too late. -/
theorem none_at {f : Nat → Int} {n : Nat} {kind : Int} {j : Nat} (hd : digits f j) (hj : 1 ≤ j) (hn : ¬ (48 ≤ f j ∧ f j ≤ 57)) (hc : ¬ (f j = 13 ∧ 2 ≤ j ∧ j + 1 < n ∧ f (j + 1) = 10)) : ¬ ∃ i, Good f n kind i := by
  rintro ⟨i, a1, a2, a3, a4, a5, a6, a7⟩
  rcases Nat.lt_trichotomy i j with h | h | h
  · have := hd i (by omega) h; omega
  · subst h; exact hc ⟨a6, a1, a3, a7⟩
  · exact hn (a5 j hj h)

/-- .. ten digits. -/
theorem none_ten {f : Nat → Int} {n : Nat} {kind : Int} (hd : digits f 11) : ¬ ∃ i, Good f n kind i := by
  rintro ⟨i, a1, a2, a3, a4, a5, a6, a7⟩
  have := hd i (by omega) (by omega); omega

/-- .. digits to the end. -/
theorem none_end {f : Nat → Int} {n : Nat} {kind : Int} (hd : digits f n) : ¬ ∃ i, Good f n kind i := by
  rintro ⟨i, a1, a2, a3, a4, a5, a6, a7⟩
  have := hd i (by omega) (by omega); omega

theorem none_short {f : Nat → Int} {n : Nat} {kind : Int} (h : n < 4) : ¬ ∃ i, Good f n kind i := by
  rintro ⟨i, a1, a2, a3, _⟩; omega

theorem none_kind {f : Nat → Int} {n : Nat} {kind : Int} (h : ¬ f 0 = kind) : ¬ ∃ i, Good f n kind i := by
  rintro ⟨i, a1, a2, a3, a4, _⟩; exact h a4

end Go.Proofs.Qxb6603754a.Hd
