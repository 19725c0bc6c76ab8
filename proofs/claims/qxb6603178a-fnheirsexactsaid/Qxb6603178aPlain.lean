/-
  PLAIN MATHEMATICS: positions of a cube, distances, the nearest position that another peer holds. No Go in sight.
-/
namespace Go.Proofs.Qxb6603178a.Cube

/-- How many of the low k bits are set. -/
def pc : Nat → Nat → Nat
  | 0, _ => 0
  | k + 1, x => pc k x + (x.testBit k).toNat

/-- x with bit d turned. -/
def fl (x d : Nat) : Nat := x ^^^ 2 ^ d

/-- The distance of two positions of a cube of D dimensions. -/
def ham (D x z : Nat) : Nat := pc D (x ^^^ z)

theorem fl_lt {D x d : Nat} (hx : x < 2 ^ D) (hd : d < D) : fl x d < 2 ^ D :=
  Nat.xor_lt_two_pow hx (Nat.pow_lt_pow_right (by omega) hd)

theorem fl_fl (x d : Nat) : fl (fl x d) d = x := by
  unfold fl; rw [Nat.xor_assoc, Nat.xor_self, Nat.xor_zero]

theorem fl_ne (x d : Nat) : fl x d ≠ x := by
  intro h
  have h2 : (fl x d).testBit d = x.testBit d := by rw [h]
  unfold fl at h2
  rw [Nat.testBit_xor, Nat.testBit_two_pow_self] at h2
  cases hb : x.testBit d <;> simp [hb] at h2

theorem testBit_fl (u d k : Nat) : (fl u d).testBit k = (u.testBit k ^^ decide (d = k)) := by
  unfold fl; rw [Nat.testBit_xor, Nat.testBit_two_pow]

theorem pc_fl_far (D u d : Nat) (h : D ≤ d) : pc D (fl u d) = pc D u := by
  induction D with
  | zero => rfl
  | succ k ih =>
    have hk : ¬ d = k := by omega
    simp only [pc, ih (by omega), testBit_fl, hk, decide_false, Bool.xor_false]

theorem pc_fl (D u d : Nat) (h : d < D) : pc D (fl u d) = if u.testBit d then pc D u - 1 else pc D u + 1 := by
  induction D with
  | zero => omega
  | succ k ih =>
    by_cases e : d = k
    · subst e
      simp only [pc, pc_fl_far d u d (Nat.le_refl _), testBit_fl, decide_true]
      cases hb : u.testBit d <;> simp
    · have hdk : d < k := by omega
      simp only [pc, ih hdk, testBit_fl, e, decide_false, Bool.xor_false]
      by_cases hb : u.testBit d = true
      · have h1 : 1 ≤ pc k u := by
          have : ∀ K, d < K → 1 ≤ pc K u := by
            intro K hK
            induction K with
            | zero => omega
            | succ K ih2 =>
              simp only [pc]
              by_cases e2 : d = K
              · subst e2; rw [hb]; simp
              · have := ih2 (by omega); omega
          exact this k hdk
        rw [if_pos hb, if_pos hb]; omega
      · rw [if_neg hb, if_neg hb]; omega

theorem pc_pos (D u d : Nat) (h : d < D) (hb : u.testBit d = true) : 1 ≤ pc D u := by
  induction D with
  | zero => omega
  | succ K ih2 =>
    simp only [pc]
    by_cases e2 : d = K
    · subst e2; rw [hb]; simp
    · have := ih2 (by omega); omega

theorem pc_le (D u : Nat) : pc D u ≤ D := by
  induction D with
  | zero => simp [pc]
  | succ K ih => simp only [pc]; cases u.testBit K <;> simp <;> omega

theorem pc_bit (D u : Nat) (h : 0 < pc D u) : ∃ d, d < D ∧ u.testBit d = true := by
  induction D with
  | zero => simp [pc] at h
  | succ K ih =>
    by_cases hb : u.testBit K = true
    · exact ⟨K, by omega, hb⟩
    · simp only [pc, Bool.not_eq_true _ ▸ hb] at h
      simp at h
      obtain ⟨d, h1, h2⟩ := ih (by omega)
      exact ⟨d, by omega, h2⟩

theorem ham_fl (D x d z : Nat) (h : d < D) : ham D (fl x d) z = if (x ^^^ z).testBit d then ham D x z - 1 else ham D x z + 1 := by
  unfold ham
  have : fl x d ^^^ z = fl (x ^^^ z) d := by
    unfold fl; rw [Nat.xor_assoc, Nat.xor_comm (2 ^ d) z, ← Nat.xor_assoc]
  rw [this]
  exact pc_fl D _ d h

theorem ham_le (D x z : Nat) : ham D x z ≤ D := pc_le _ _

theorem ham_self (D x : Nat) : ham D x x = 0 := by
  unfold ham; rw [Nat.xor_self]
  induction D with
  | zero => rfl
  | succ k ih => simp [pc, ih]

theorem ham_zero {D x z : Nat} (hx : x < 2 ^ D) (hz : z < 2 ^ D) (h : ham D x z = 0) : x = z := by
  have hu : x ^^^ z = 0 := by
    refine Nat.eq_of_testBit_eq fun i => ?_
    rw [Nat.zero_testBit]
    by_cases hi : i < D
    · cases hb : (x ^^^ z).testBit i with
      | false => rfl
      | true => have := pc_pos D _ i hi hb; unfold ham at h; omega
    · exact Nat.testBit_lt_two_pow (Nat.lt_of_lt_of_le (Nat.xor_lt_two_pow hx hz) (Nat.pow_le_pow_right (by omega) (by omega)))
  have h2 : x ^^^ z ^^^ z = 0 ^^^ z := by rw [hu]
  rwa [Nat.xor_assoc, Nat.xor_self, Nat.xor_zero, Nat.zero_xor] at h2

theorem ham_fl_le (D x d z : Nat) (h : d < D) : ham D (fl x d) z ≤ ham D x z + 1 := by
  rw [ham_fl D x d z h]; split <;> omega

/-! ### The nearest -/
section
variable (hs : Nat → Int) (lv : Int) (D : Nat)

/-- Among the positions below k that another peer holds: the nearest to x, the lowest of those. -/
def bst (x : Nat) : Nat → Option Nat
  | 0 => none
  | k + 1 => if hs k = lv then bst x k else
    match bst x k with
    | none => some k
    | some b => if ham D x k < ham D x b then some k else some b

/-- The nearest of all. -/
def B (x : Nat) : Nat := (bst hs lv D x (2 ^ D)).getD 0

/-- How far it is. -/
def dist (x : Nat) : Nat := ham D x (B hs lv D x)

theorem bst_none {x k : Nat} (h : bst hs lv D x k = none) : ∀ z, z < k → hs z = lv := by
  induction k with
  | zero => intro z hz; omega
  | succ k ih =>
    unfold bst at h
    by_cases e : hs k = lv
    · rw [if_pos e] at h
      intro z hz
      by_cases ez : z = k
      · subst ez; exact e
      · exact ih h z (by omega)
    · rw [if_neg e] at h
      cases hb : bst hs lv D x k with
      | none => rw [hb] at h; simp at h
      | some b => rw [hb] at h; simp only at h; split at h <;> simp at h

theorem bst_some {x k b : Nat} (h : bst hs lv D x k = some b) : b < k ∧ hs b ≠ lv ∧ ∀ z, z < k → hs z ≠ lv → ham D x b < ham D x z ∨ (ham D x b = ham D x z ∧ b ≤ z) := by
  induction k generalizing b with
  | zero => simp [bst] at h
  | succ k ih =>
    unfold bst at h
    by_cases e : hs k = lv
    · rw [if_pos e] at h
      obtain ⟨h1, h2, h3⟩ := ih h
      refine ⟨by omega, h2, fun z hz hne => ?_⟩
      by_cases ez : z = k
      · subst ez; exact absurd e hne
      · exact h3 z (by omega) hne
    · rw [if_neg e] at h
      cases hb : bst hs lv D x k with
      | none =>
        rw [hb] at h
        simp at h
        subst h
        refine ⟨by omega, e, fun z hz hne => ?_⟩
        by_cases ez : z = k
        · subst ez; exact .inr ⟨rfl, Nat.le_refl _⟩
        · exact absurd (bst_none hs lv D hb z (by omega)) hne
      | some c =>
        rw [hb] at h
        simp only at h
        obtain ⟨h1, h2, h3⟩ := ih hb
        by_cases hc : ham D x k < ham D x c
        · rw [if_pos hc] at h
          simp at h
          subst h
          refine ⟨by omega, e, fun z hz hne => ?_⟩
          by_cases ez : z = k
          · subst ez; exact .inr ⟨rfl, Nat.le_refl _⟩
          · rcases h3 z (by omega) hne with h4 | h4 <;> exact .inl (by omega)
        · rw [if_neg hc] at h
          simp at h
          subst h
          refine ⟨by omega, h2, fun z hz hne => ?_⟩
          by_cases ez : z = k
          · subst ez
            by_cases he : ham D x c = ham D x z
            · exact .inr ⟨he, by omega⟩
            · exact .inl (by omega)
          · exact h3 z (by omega) hne

/-- Some other peer holds a position. -/
def Some' : Prop := ∃ z, z < 2 ^ D ∧ hs z ≠ lv

variable {hs lv D}

theorem B_spec (h : Some' hs lv D) (x : Nat) : B hs lv D x < 2 ^ D ∧ hs (B hs lv D x) ≠ lv ∧
    ∀ z, z < 2 ^ D → hs z ≠ lv → ham D x (B hs lv D x) < ham D x z ∨ (ham D x (B hs lv D x) = ham D x z ∧ B hs lv D x ≤ z) := by
  unfold B
  cases hb : bst hs lv D x (2 ^ D) with
  | none =>
    obtain ⟨z, h1, h2⟩ := h
    exact absurd (bst_none hs lv D hb z h1) h2
  | some b => exact bst_some hs lv D hb

theorem dist_le_D (x : Nat) : dist hs lv D x ≤ D := ham_le _ _ _

theorem dist_le (h : Some' hs lv D) (x : Nat) {z : Nat} (hz : z < 2 ^ D) (hne : hs z ≠ lv) : dist hs lv D x ≤ ham D x z := by
  rcases (B_spec h x).2.2 z hz hne with h1 | h1 <;> unfold dist <;> omega

theorem B_le (h : Some' hs lv D) (x : Nat) {z : Nat} (hz : z < 2 ^ D) (hne : hs z ≠ lv) (he : ham D x z ≤ dist hs lv D x) : B hs lv D x ≤ z := by
  rcases (B_spec h x).2.2 z hz hne with h1 | h1
  · unfold dist at he; omega
  · exact h1.2

theorem dist_zero (h : Some' hs lv D) {x : Nat} (hx : x < 2 ^ D) : dist hs lv D x = 0 ↔ hs x ≠ lv := by
  constructor
  · intro h0
    have := ham_zero hx (B_spec h x).1 h0
    rw [this]; exact (B_spec h x).2.1
  · intro hne
    have := dist_le h x hx hne
    rw [ham_self] at this; omega

theorem B_own (h : Some' hs lv D) {x : Nat} (hx : x < 2 ^ D) (hne : hs x ≠ lv) : B hs lv D x = x :=
  (ham_zero hx (B_spec h x).1 ((dist_zero h hx).2 hne)).symm

theorem dist_fl (h : Some' hs lv D) (x : Nat) {d : Nat} (hd : d < D) : dist hs lv D (fl x d) ≤ dist hs lv D x + 1 := by
  have h1 := dist_le h (fl x d) (B_spec h x).1 (B_spec h x).2.1
  have h2 := ham_fl_le D x d (B hs lv D x) hd
  unfold dist at *; omega

theorem dist_fl' (h : Some' hs lv D) (x : Nat) {d : Nat} (hd : d < D) : dist hs lv D x ≤ dist hs lv D (fl x d) + 1 := by
  have := dist_fl h (fl x d) hd
  rwa [fl_fl] at this

/-- A neighbour nearer by one knows no lower one. -/
theorem B_fl (h : Some' hs lv D) (x : Nat) {d : Nat} (hd : d < D) (hk : dist hs lv D (fl x d) + 1 = dist hs lv D x) : B hs lv D x ≤ B hs lv D (fl x d) := by
  refine B_le h x (B_spec h _).1 (B_spec h _).2.1 ?_
  have := ham_fl_le D (fl x d) d (B hs lv D (fl x d)) hd
  rw [fl_fl] at this
  unfold dist at *; omega

/-- There is a neighbour nearer by one that knows the very same. -/
theorem B_via (h : Some' hs lv D) (x : Nat) (hk : 0 < dist hs lv D x) : ∃ d, d < D ∧ dist hs lv D (fl x d) + 1 = dist hs lv D x ∧ B hs lv D (fl x d) = B hs lv D x := by
  obtain ⟨d, hd, hb⟩ := pc_bit D _ hk
  have e := ham_fl D x d (B hs lv D x) hd
  rw [if_pos hb] at e
  have h1 := dist_le h (fl x d) (B_spec h x).1 (B_spec h x).2.1
  have h2 := dist_fl' h x hd
  have h3 : dist hs lv D (fl x d) + 1 = dist hs lv D x := by
    have e2 : dist hs lv D x = ham D x (B hs lv D x) := rfl
    omega
  refine ⟨d, hd, h3, ?_⟩
  have h4 := B_fl h x hd h3
  have h5 := B_le h (fl x d) (B_spec h x).1 (B_spec h x).2.1 (by have e2 : dist hs lv D x = ham D x (B hs lv D x) := rfl; omega)
  omega

end
end Go.Proofs.Qxb6603178a.Cube
