/-
  PLAIN MATHEMATICS: what each loop of 'heirs' computes, and what it means. No Go in sight.
-/
import Derived.Test.Qxb6603178aPlain
namespace Go.Proofs.Qxb6603178a.Cube

/-- A list without repeats, all below n, is no longer than n. -/
theorem nodup_len : ∀ (n : Nat) (l : List Nat), l.Nodup → (∀ x ∈ l, x < n) → l.length ≤ n := by
  intro n
  induction n with
  | zero =>
    intro l _ h
    cases l with
    | nil => simp
    | cons a t => have := h a (by simp); omega
  | succ n ih =>
    intro l hn h
    have h1 := ih (l.erase n) (hn.erase n) (fun x hx => by
      have h2 := (hn.mem_erase_iff).1 hx
      have := h x h2.2
      have := h2.1
      omega)
    have h2 := List.length_erase (a := n) (l := l)
    split at h2 <;> omega

section
variable (hs : Nat → Int) (lv : Int) (D : Nat)

/-! ### Loops 1 and 2 -/
/-- near[x] behind k dimensions. -/
def lw (x : Nat) : Nat → Int
  | 0 => 0
  | k + 1 => if hs (fl x k) = lv then lw x k else if lw x k = 0 ∨ (fl x k : Int) < lw x k - 1 then (fl x k : Int) + 1 else lw x k

/-- heirs[i] behind k dimensions. -/
def hr (x : Nat) : Nat → Int
  | 0 => -1
  | k + 1 => if hs (fl x k) = lv then hr x k else if hr x k < 0 then hs (fl x k) else hr x k

theorem lw_spec (x k : Nat) : (lw hs lv x k = 0 ∧ ∀ d, d < k → hs (fl x d) = lv) ∨
    (∃ d, d < k ∧ hs (fl x d) ≠ lv ∧ lw hs lv x k = (fl x d : Int) + 1 ∧ ∀ d', d' < k → hs (fl x d') ≠ lv → fl x d ≤ fl x d') := by
  induction k with
  | zero => exact .inl ⟨rfl, fun d h => by omega⟩
  | succ k ih =>
    unfold lw
    by_cases e : hs (fl x k) = lv
    · rw [if_pos e]
      rcases ih with ⟨h1, h2⟩ | ⟨d, h1, h2, h3, h4⟩
      · refine .inl ⟨h1, fun d hd => ?_⟩
        by_cases ed : d = k
        · subst ed; exact e
        · exact h2 d (by omega)
      · refine .inr ⟨d, by omega, h2, h3, fun d' hd' hne => ?_⟩
        by_cases ed : d' = k
        · subst ed; exact absurd e hne
        · exact h4 d' (by omega) hne
    · rw [if_neg e]
      right
      rcases ih with ⟨h1, h2⟩ | ⟨d, h1, h2, h3, h4⟩
      · rw [if_pos (.inl h1)]
        refine ⟨k, by omega, e, rfl, fun d' hd' hne => ?_⟩
        by_cases ed : d' = k
        · subst ed; omega
        · exact absurd (h2 d' (by omega)) hne
      · by_cases hc : (fl x k : Int) < lw hs lv x k - 1
        · rw [if_pos (.inr hc)]
          refine ⟨k, by omega, e, rfl, fun d' hd' hne => ?_⟩
          by_cases ed : d' = k
          · subst ed; omega
          · have := h4 d' (by omega) hne; omega
        · rw [if_neg (by omega)]
          refine ⟨d, by omega, h2, h3, fun d' hd' hne => ?_⟩
          by_cases ed : d' = k
          · subst ed; omega
          · exact h4 d' (by omega) hne

theorem lw_bd {x k : Nat} (hx : x < 2 ^ D) (hk : k ≤ D) : 0 ≤ lw hs lv x k ∧ lw hs lv x k ≤ (2 ^ D : Nat) := by
  rcases lw_spec hs lv x k with ⟨h, _⟩ | ⟨d, h1, _, h3, _⟩
  · rw [h]; omega
  · have := fl_lt hx (show d < D by omega); rw [h3]; omega

theorem hr_spec (hpos : ∀ z, z < 2 ^ D → 0 ≤ hs z) {x k : Nat} (hx : x < 2 ^ D) (hk : k ≤ D) : (hr hs lv x k = -1 ∧ ∀ d, d < k → hs (fl x d) = lv) ∨
    (∃ d, d < k ∧ hs (fl x d) ≠ lv ∧ hr hs lv x k = hs (fl x d) ∧ 0 ≤ hr hs lv x k ∧ ∀ d', d' < d → hs (fl x d') = lv) := by
  induction k with
  | zero => exact .inl ⟨rfl, fun d h => by omega⟩
  | succ k ih =>
    have ih := ih (by omega)
    unfold hr
    by_cases e : hs (fl x k) = lv
    · rw [if_pos e]
      rcases ih with ⟨h1, h2⟩ | ⟨d, h1, h2, h3, h4, h5⟩
      · refine .inl ⟨h1, fun d hd => ?_⟩
        by_cases ed : d = k
        · subst ed; exact e
        · exact h2 d (by omega)
      · exact .inr ⟨d, by omega, h2, h3, h4, h5⟩
    · rw [if_neg e]
      right
      rcases ih with ⟨h1, h2⟩ | ⟨d, h1, h2, h3, h4, h5⟩
      · rw [if_pos (by omega)]
        exact ⟨k, by omega, e, rfl, hpos _ (fl_lt hx (by omega)), h2⟩
      · rw [if_neg (by omega)]
        exact ⟨d, by omega, h2, h3, h4, h5⟩

/-- The heir of position x. -/
def heirOf (x : Nat) : Int := if hr hs lv x D < 0 then hs (B hs lv D x) else hr hs lv x D

/-- near, when the search has reached distance k. -/
def nearK (k x : Nat) : Int := if hs x = lv ∧ dist hs lv D x ≤ k then (B hs lv D x : Int) + 1 else 0

variable {hs lv D}

theorem heirOf_ne (h : Some' hs lv D) (hpos : ∀ z, z < 2 ^ D → 0 ≤ hs z) {x : Nat} (hx : x < 2 ^ D) : heirOf hs lv D x ≠ lv := by
  unfold heirOf
  by_cases e : hr hs lv x D < 0
  · rw [if_pos e]; exact (B_spec h x).2.1
  · rw [if_neg e]
    rcases hr_spec hs lv D hpos hx (Nat.le_refl D) with ⟨h1, _⟩ | ⟨d, _, h2, h3, _⟩
    · omega
    · rw [h3]; exact h2

theorem lw_final (h : Some' hs lv D) {x : Nat} (hx : x < 2 ^ D) (hl : hs x = lv) : lw hs lv x D = nearK hs lv D 1 x := by
  have hp : 0 < dist hs lv D x := by
    rcases Nat.eq_zero_or_pos (dist hs lv D x) with h0 | h0
    · exact absurd hl ((dist_zero h hx).1 h0)
    · exact h0
  unfold nearK
  rcases lw_spec hs lv x D with ⟨h1, h2⟩ | ⟨d, h1, h2, h3, h4⟩
  · rw [h1, if_neg]
    rintro ⟨_, hd⟩
    obtain ⟨d, hd1, hd2, _⟩ := B_via h x hp
    exact absurd (h2 d hd1) ((dist_zero h (fl_lt hx hd1)).1 (by omega))
  · have h5 : dist hs lv D (fl x d) = 0 := (dist_zero h (fl_lt hx h1)).2 h2
    have h6 := dist_fl' h x h1
    have h7 : dist hs lv D x = 1 := by omega
    rw [if_pos ⟨hl, by omega⟩, h3]
    have h8 := B_fl h x h1 (by omega)
    rw [B_own h (fl_lt hx h1) h2] at h8
    obtain ⟨e, e1, e2, e3⟩ := B_via h x hp
    have e4 : hs (fl x e) ≠ lv := (dist_zero h (fl_lt hx e1)).1 (by omega)
    have e5 := h4 e e1 e4
    rw [B_own h (fl_lt hx e1) e4] at e3
    omega

theorem nearK_bd (h : Some' hs lv D) (k x : Nat) : 0 ≤ nearK hs lv D k x ∧ nearK hs lv D k x ≤ (2 ^ D : Nat) := by
  have := (B_spec h x).1
  unfold nearK
  split <;> omega

theorem nearK_zero {k x : Nat} (hl : hs x = lv) : nearK hs lv D k x = 0 ↔ k < dist hs lv D x := by
  unfold nearK
  by_cases e : dist hs lv D x ≤ k
  · rw [if_pos ⟨hl, e⟩]; omega
  · rw [if_neg (fun h => e h.2)]; omega

/-! ### Loops 4 and 5: who is to be settled next -/
variable (hs lv D)
def mstep (near : Nat → Int) (y : Nat) (N : List Nat) : List Nat := if hs y = lv ∧ near y = 0 ∧ ¬ y ∈ N then N ++ [y] else N
def mk1 (near : Nat → Int) (z : Nat) (N : List Nat) : Nat → List Nat
  | 0 => N
  | d + 1 => mstep hs lv near (fl z d) (mk1 near z N d)
def mkN (near : Nat → Int) (F : List Nat) : Nat → List Nat
  | 0 => []
  | i + 1 => mk1 hs lv near (F.getD i 0) (mkN near F i) D
/-- near, with what is to be settled next marked. -/
def marked (near : Nat → Int) (N : List Nat) (x : Nat) : Int := if x ∈ N then -1 else near x
variable {hs lv D}

theorem mem_mstep {near : Nat → Int} {y x : Nat} {N : List Nat} : x ∈ mstep hs lv near y N ↔ x ∈ N ∨ (x = y ∧ hs y = lv ∧ near y = 0) := by
  unfold mstep
  split
  · rename_i h
    rw [List.mem_append, List.mem_singleton]
    constructor
    · rintro (h1 | h1)
      · exact .inl h1
      · exact .inr ⟨h1, h.1, h.2.1⟩
    · rintro (h1 | h1)
      · exact .inl h1
      · exact .inr h1.1
  · rename_i h
    constructor
    · exact .inl
    · rintro (h1 | ⟨rfl, h2, h3⟩)
      · exact h1
      · exact Classical.byContradiction fun h4 => h ⟨h2, h3, h4⟩

theorem nodup_mstep {near : Nat → Int} {y : Nat} {N : List Nat} (h : N.Nodup) : (mstep hs lv near y N).Nodup := by
  unfold mstep
  split
  · rename_i h1
    rw [List.nodup_append]
    refine ⟨h, by simp, ?_⟩
    intro a ha b hb
    simp at hb
    subst hb
    intro e
    subst e
    exact h1.2.2 ha
  · exact h

theorem mem_mk1 {near : Nat → Int} {z x : Nat} {N : List Nat} (d : Nat) : x ∈ mk1 hs lv near z N d ↔ x ∈ N ∨ ∃ d', d' < d ∧ x = fl z d' ∧ hs x = lv ∧ near x = 0 := by
  induction d with
  | zero => simp [mk1]
  | succ d ih =>
    unfold mk1
    rw [mem_mstep, ih]
    constructor
    · rintro ((h | ⟨d', h1, h2⟩) | ⟨rfl, h1, h2⟩)
      · exact .inl h
      · exact .inr ⟨d', by omega, h2⟩
      · exact .inr ⟨d, by omega, rfl, h1, h2⟩
    · rintro (h | ⟨d', h1, h2, h3, h4⟩)
      · exact .inl (.inl h)
      · by_cases e : d' = d
        · subst e; subst h2; exact .inr ⟨rfl, h3, h4⟩
        · exact .inl (.inr ⟨d', by omega, h2, h3, h4⟩)

theorem nodup_mk1 {near : Nat → Int} {z : Nat} {N : List Nat} (h : N.Nodup) (d : Nat) : (mk1 hs lv near z N d).Nodup := by
  induction d with
  | zero => exact h
  | succ d ih => exact nodup_mstep ih

theorem mem_mkN {near : Nat → Int} {F : List Nat} {x : Nat} (i : Nat) : x ∈ mkN hs lv D near F i ↔ ∃ j, j < i ∧ ∃ d, d < D ∧ x = fl (F.getD j 0) d ∧ hs x = lv ∧ near x = 0 := by
  induction i with
  | zero => simp [mkN]
  | succ i ih =>
    unfold mkN
    rw [mem_mk1, ih]
    constructor
    · rintro (⟨j, h1, h2⟩ | ⟨d, h1, h2⟩)
      · exact ⟨j, by omega, h2⟩
      · exact ⟨i, by omega, d, h1, h2⟩
    · rintro ⟨j, h1, d, h2, h3⟩
      by_cases e : j = i
      · subst e; exact .inr ⟨d, h2, h3⟩
      · exact .inl ⟨j, by omega, d, h2, h3⟩

theorem nodup_mkN {near : Nat → Int} {F : List Nat} (i : Nat) : (mkN hs lv D near F i).Nodup := by
  induction i with
  | zero => simp [mkN]
  | succ i ih => exact nodup_mk1 ih D

theorem lt_mk1 {near : Nat → Int} {z : Nat} {N : List Nat} (hz : z < 2 ^ D) (hN : ∀ x ∈ N, x < 2 ^ D) {d : Nat} (hd : d ≤ D) : ∀ x ∈ mk1 hs lv near z N d, x < 2 ^ D := by
  intro x hx
  rcases (mem_mk1 d).1 hx with h | ⟨d', h1, rfl, _⟩
  · exact hN x h
  · exact fl_lt hz (by omega)

variable (hs lv D)
/-- F holds just the leaver's positions at distance k. -/
def Lev (F : List Nat) (k : Nat) : Prop := F.Nodup ∧ ∀ x, x ∈ F ↔ x < 2 ^ D ∧ hs x = lv ∧ dist hs lv D x = k
variable {hs lv D}

theorem Lev.lt {F : List Nat} {k : Nat} (h : Lev hs lv D F k) : ∀ x ∈ F, x < 2 ^ D := fun x hx => ((h.2 x).1 hx).1
theorem Lev.len {F : List Nat} {k : Nat} (h : Lev hs lv D F k) : F.length ≤ 2 ^ D := nodup_len _ _ h.1 h.lt
theorem getD_mem {l : List Nat} {i : Nat} (h : i < l.length) : l.getD i 0 ∈ l := by
  rw [List.getD_eq_getElem?_getD, List.getElem?_eq_getElem h]; simp

theorem lt_mkN {near : Nat → Int} {F : List Nat} (hF : ∀ x ∈ F, x < 2 ^ D) {i : Nat} (hi : i ≤ F.length) : ∀ x ∈ mkN hs lv D near F i, x < 2 ^ D := by
  intro x hx
  obtain ⟨j, h1, d, h2, rfl, _⟩ := (mem_mkN i).1 hx
  exact fl_lt (hF _ (getD_mem (by omega))) h2

theorem lev_next (h : Some' hs lv D) {F : List Nat} {k : Nat} (hk : 1 ≤ k) (hF : Lev hs lv D F k) : Lev hs lv D (mkN hs lv D (nearK hs lv D k) F F.length) (k + 1) := by
  refine ⟨nodup_mkN _, fun x => ?_⟩
  rw [mem_mkN]
  constructor
  · rintro ⟨j, h1, d, h2, h3, h4, h5⟩
    have hz := (hF.2 _).1 (getD_mem h1)
    rw [nearK_zero h4] at h5
    have h6 := dist_fl h (F.getD j 0) h2
    rw [← h3] at h6
    exact ⟨by rw [h3]; exact fl_lt hz.1 h2, h4, by omega⟩
  · rintro ⟨h1, h2, h3⟩
    obtain ⟨d, hd, h4, _⟩ := B_via h x (by omega)
    have h5 : hs (fl x d) = lv := by
      refine Classical.byContradiction fun hne => ?_
      have := (dist_zero h (fl_lt h1 hd)).2 hne
      omega
    have h6 : fl x d ∈ F := (hF.2 _).2 ⟨fl_lt h1 hd, h5, by omega⟩
    obtain ⟨j, hj, e⟩ := List.getElem_of_mem h6
    refine ⟨j, hj, d, hd, ?_, h2, (nearK_zero h2).2 (by omega)⟩
    rw [List.getD_eq_getElem?_getD, List.getElem?_eq_getElem hj, Option.getD_some, e, fl_fl]

/-! ### Loop 7: the lowest address nearest -/
/-- low behind d dimensions. -/
def lo (near : Nat → Int) (x : Nat) : Nat → Int
  | 0 => 0
  | d + 1 => if 0 < near (fl x d) ∧ (lo near x d = 0 ∨ near (fl x d) < lo near x d) then near (fl x d) else lo near x d

theorem lo_spec (near : Nat → Int) (x k : Nat) : (lo near x k = 0 ∧ ∀ d, d < k → near (fl x d) ≤ 0) ∨
    (0 < lo near x k ∧ (∃ d, d < k ∧ lo near x k = near (fl x d)) ∧ ∀ d, d < k → 0 < near (fl x d) → lo near x k ≤ near (fl x d)) := by
  induction k with
  | zero => exact .inl ⟨rfl, fun d h => by omega⟩
  | succ k ih =>
    unfold lo
    by_cases e : 0 < near (fl x k)
    · right
      rcases ih with ⟨h1, h2⟩ | ⟨h1, ⟨d, h2, h3⟩, h4⟩
      · rw [if_pos ⟨e, .inl h1⟩]
        refine ⟨e, ⟨k, by omega, rfl⟩, fun d hd hp => ?_⟩
        by_cases ed : d = k
        · subst ed; omega
        · have := h2 d (by omega); omega
      · by_cases hc : near (fl x k) < lo near x k
        · rw [if_pos ⟨e, .inr hc⟩]
          refine ⟨e, ⟨k, by omega, rfl⟩, fun d hd hp => ?_⟩
          by_cases ed : d = k
          · subst ed; omega
          · have := h4 d (by omega) hp; omega
        · rw [if_neg (by omega)]
          refine ⟨h1, ⟨d, by omega, h3⟩, fun d' hd hp => ?_⟩
          by_cases ed : d' = k
          · subst ed; omega
          · exact h4 d' (by omega) hp
    · rw [if_neg (by omega)]
      rcases ih with ⟨h1, h2⟩ | ⟨h1, ⟨d, h2, h3⟩, h4⟩
      · refine .inl ⟨h1, fun d hd => ?_⟩
        by_cases ed : d = k
        · subst ed; omega
        · exact h2 d (by omega)
      · refine .inr ⟨h1, ⟨d, by omega, h3⟩, fun d' hd hp => ?_⟩
        by_cases ed : d' = k
        · subst ed; omega
        · exact h4 d' (by omega) hp

theorem lo_final (h : Some' hs lv D) {N : List Nat} {k x : Nat} (hN : Lev hs lv D N (k + 1)) (hk : 1 ≤ k) (hx : x ∈ N) :
    lo (marked (nearK hs lv D k) N) x D = (B hs lv D x : Int) + 1 := by
  obtain ⟨hx1, hx2, hx3⟩ := (hN.2 x).1 hx
  -- what a neighbour's mark is
  have key : ∀ d, d < D → 0 < marked (nearK hs lv D k) N (fl x d) → dist hs lv D (fl x d) = k ∧ marked (nearK hs lv D k) N (fl x d) = (B hs lv D (fl x d) : Int) + 1 := by
    intro d hd hp
    unfold marked at hp ⊢
    by_cases hm : fl x d ∈ N
    · rw [if_pos hm] at hp; omega
    · rw [if_neg hm] at hp ⊢
      unfold nearK at hp ⊢
      by_cases hc : hs (fl x d) = lv ∧ dist hs lv D (fl x d) ≤ k
      · rw [if_pos hc]
        have := dist_fl' h x hd
        exact ⟨by omega, rfl⟩
      · rw [if_neg hc] at hp; omega
  obtain ⟨e, e1, e2, e3⟩ := B_via h x (by omega)
  have e4 : hs (fl x e) = lv := by
    refine Classical.byContradiction fun hne => ?_
    have := (dist_zero h (fl_lt hx1 e1)).2 hne
    omega
  have e5 : ¬ fl x e ∈ N := fun hm => by have := ((hN.2 _).1 hm).2.2; omega
  have e6 : marked (nearK hs lv D k) N (fl x e) = (B hs lv D x : Int) + 1 := by
    unfold marked nearK
    rw [if_neg e5, if_pos ⟨e4, by omega⟩, e3]
  rcases lo_spec (marked (nearK hs lv D k) N) x D with ⟨h1, h2⟩ | ⟨h1, ⟨d, h2, h3⟩, h4⟩
  · have := h2 e e1; omega
  · have a1 := h4 e e1 (by omega)
    obtain ⟨b1, b2⟩ := key d h2 (by omega)
    have b3 := B_fl h x h2 (by omega)
    omega

/-! ### Loop 8 -/
theorem nearK_next {N : List Nat} {k x : Nat} (hN : Lev hs lv D N (k + 1)) (hx : x < 2 ^ D) : (if x ∈ N then (B hs lv D x : Int) + 1 else nearK hs lv D k x) = nearK hs lv D (k + 1) x := by
  by_cases hm : x ∈ N
  · rw [if_pos hm]
    have := (hN.2 x).1 hm
    unfold nearK
    rw [if_pos ⟨this.2.1, by omega⟩]
  · rw [if_neg hm]
    unfold nearK
    by_cases hl : hs x = lv
    · have : ¬ dist hs lv D x = k + 1 := fun e => hm ((hN.2 x).2 ⟨hx, hl, e⟩)
      by_cases hd : dist hs lv D x ≤ k
      · rw [if_pos ⟨hl, hd⟩, if_pos ⟨hl, by omega⟩]
      · rw [if_neg (fun h => hd h.2), if_neg (fun h => by omega)]
    · rw [if_neg (fun h => hl h.1), if_neg (fun h => hl h.1)]

/-- Where no position lies at distance k, none lies further. -/
theorem lev_empty (h : Some' hs lv D) {k : Nat} (hk : 1 ≤ k) (hF : Lev hs lv D [] k) : ∀ m x, x < 2 ^ D → hs x = lv → dist hs lv D x = m → m ≤ k := by
  intro m
  induction m with
  | zero => intros; omega
  | succ m ih =>
    intro x hx hl hm
    refine Classical.byContradiction fun hgt => ?_
    obtain ⟨d, hd, h4, _⟩ := B_via h x (by omega)
    have h5 : hs (fl x d) = lv := by
      refine Classical.byContradiction fun hne => ?_
      have := (dist_zero h (fl_lt hx hd)).2 hne
      omega
    have h6 := ih (fl x d) (fl_lt hx hd) h5 (by omega)
    have h7 : dist hs lv D (fl x d) = k := by omega
    exact absurd ((hF.2 _).2 ⟨fl_lt hx hd, h5, h7⟩) (by simp)

theorem nearK_end (h : Some' hs lv D) {k x : Nat} (hk : 1 ≤ k) (hF : Lev hs lv D [] k) (hx : x < 2 ^ D) (hl : hs x = lv) : nearK hs lv D k x = (B hs lv D x : Int) + 1 := by
  unfold nearK
  rw [if_pos ⟨hl, lev_empty h hk hF _ x hx hl rfl⟩]

theorem nearK_other {k x : Nat} (hl : hs x ≠ lv) : nearK hs lv D k x = 0 := by
  unfold nearK; rw [if_neg (fun h => hl h.1)]

end
end Go.Proofs.Qxb6603178a.Cube
