/-
  PLAIN: the placeholders of a text. No Go in sight.
-/
namespace Go.Proofs.Qxb6603356a.Ph

def dig (c : UInt8) : Bool := decide (48 ≤ c.toNat ∧ c.toNat ≤ 57)

/-- The run of digits behind each dollar sign. -/
def ph : List UInt8 → List (List UInt8)
  | [] => []
  | c :: t => if c.toNat = 36 then t.takeWhile dig :: ph t else ph t

/-- The one digit n. -/
def hit (n : Nat) : List UInt8 → Bool
  | [c] => c.toNat == 48 + n
  | _ => false
/-- No digit from 1 to 9 alone, and not empty. -/
def keep : List UInt8 → Bool
  | [] => false
  | [c] => c.toNat == 48
  | _ => true

def cnt (n : Nat) (l : List UInt8) : Nat := (ph l).countP (hit n)
def seqF (rs : List (List UInt8)) : List UInt8 := rs.flatMap (fun r => if keep r then 36 :: r ++ [59] else [])
def seq (l : List UInt8) : List UInt8 := seqF (ph l)

theorem tw_left {t b : List UInt8} (h : ∃ x ∈ t, dig x = false) : (t ++ b).takeWhile dig = t.takeWhile dig := by
  induction t with
  | nil => simp at h
  | cons c t ih =>
    rw [List.cons_append, List.takeWhile_cons, List.takeWhile_cons]
    cases hc : dig c with
    | false => rfl
    | true =>
      obtain ⟨x, hx, hd⟩ := h
      rcases List.mem_cons.1 hx with rfl | hx
      · rw [hc] at hd; cases hd
      · rw [ih ⟨x, hx, hd⟩]

def headOk : List UInt8 → Bool
  | [] => true
  | c :: _ => !dig c
def endOk : List UInt8 → Bool
  | [] => true
  | [c] => !dig c && c.toNat != 36
  | _ :: t => endOk t

theorem tw_head {b : List UInt8} (h : headOk b = true) : b.takeWhile dig = [] := by
  cases b with
  | nil => rfl
  | cons c t => simp [headOk] at h; simp [h]

theorem tw_right {t b : List UInt8} (h : headOk b = true) : (t ++ b).takeWhile dig = t.takeWhile dig := by
  induction t with
  | nil => simpa using tw_head h
  | cons c t ih =>
    rw [List.cons_append, List.takeWhile_cons, List.takeWhile_cons, ih]

theorem ph_right {a b : List UInt8} (h : headOk b = true) : ph (a ++ b) = ph a ++ ph b := by
  induction a with
  | nil => rfl
  | cons c t ih =>
    rw [List.cons_append, ph, ph, tw_right h, ih]
    split <;> rfl

theorem endOk_has {a : List UInt8} (h : endOk a = true) (hne : a ≠ []) : ∃ x ∈ a, dig x = false := by
  induction a with
  | nil => exact absurd rfl hne
  | cons c t ih =>
    cases t with
    | nil => simp [endOk] at h; exact ⟨c, by simp, h.1⟩
    | cons d t =>
      obtain ⟨x, hx, hd⟩ := ih h (by simp)
      exact ⟨x, by simp [hx], hd⟩

theorem ph_left {a b : List UInt8} (h : endOk a = true) : ph (a ++ b) = ph a ++ ph b := by
  induction a with
  | nil => rfl
  | cons c t ih =>
    cases t with
    | nil =>
      simp [endOk] at h
      simp [ph, h.2]
    | cons d t =>
      have h1 : endOk (d :: t) = true := h
      rw [List.cons_append, ph, ph, ih h1, tw_left (endOk_has h1 (by simp))]
      split <;> rfl

theorem ph_three {a q z : List UInt8} (ha : endOk a = true) (hz : headOk z = true) : ph (a ++ q ++ z) = ph a ++ ph q ++ ph z := by
  rw [ph_right hz, ph_left ha]

/-- What is asked of the constant text around the spliced condition. -/
def Fits (a z : List UInt8) : Prop :=
  endOk a = true ∧ headOk z = true ∧ seq a = [] ∧ seq z = [] ∧ ∀ n, n < 10 → (1 ≤ n → n ≤ 3 → 0 < cnt n a + cnt n z) ∧ (4 ≤ n → cnt n a + cnt n z = 0)

/-- The same, to be reckoned. -/
def fitsB (a z : List UInt8) : Bool :=
  endOk a && headOk z && (seq a).isEmpty && (seq z).isEmpty && (List.range 10).all (fun n => (!(decide (1 ≤ n) && decide (n ≤ 3)) || decide (0 < cnt n a + cnt n z)) && (!decide (4 ≤ n) || cnt n a + cnt n z == 0))

theorem fits {a z : List UInt8} (h : fitsB a z = true) : Fits a z := by
  unfold fitsB at h
  simp only [Bool.and_eq_true, List.isEmpty_iff, List.all_eq_true, List.mem_range] at h
  obtain ⟨⟨⟨⟨h1, h2⟩, h3⟩, h4⟩, h5⟩ := h
  refine ⟨h1, h2, h3, h4, fun n hn => ?_⟩
  have h6 := h5 n hn
  constructor
  · intro a1 a2
    have := h6.1
    simp [a1, a2] at this
    omega
  · intro a1
    have := h6.2
    simp [a1] at this
    omega

theorem cnt_three {a q z : List UInt8} (h : Fits a z) (n : Nat) : cnt n (a ++ q ++ z) = cnt n a + cnt n z + cnt n q := by
  unfold cnt
  rw [ph_three h.1 h.2.1, List.countP_append, List.countP_append]
  omega

theorem seqF_append (x y : List (List UInt8)) : seqF (x ++ y) = seqF x ++ seqF y := by
  unfold seqF; rw [List.flatMap_append]

theorem seq_three {a q z : List UInt8} (h : Fits a z) : seq (a ++ q ++ z) = seq q := by
  obtain ⟨h1, h2, h3, h4, _⟩ := h
  unfold seq at h3 h4 ⊢
  rw [ph_three h1 h2, seqF_append, seqF_append, h3, h4, List.append_nil, List.nil_append]

/-- The run, found by looking. -/
theorem tw_take {l : List UInt8} {m : Nat} (hm : m ≤ l.length) (hd : ∀ i (hi : i < l.length), i < m → dig l[i] = true) (he : ∀ h : m < l.length, dig l[m] = false) : l.takeWhile dig = l.take m := by
  induction l generalizing m with
  | nil => simp
  | cons c t ih =>
    cases m with
    | zero =>
      have := he (by simp)
      simp at this
      simp [this]
    | succ m =>
      have h0 := hd 0 (by simp) (by omega)
      simp at h0
      rw [List.takeWhile_cons, h0, List.take_succ_cons]
      have hrec := ih (m := m) (by simpa using hm) (fun i hi him => by have := hd (i + 1) (by simpa using hi) (by omega); simpa using this) (fun h => by have := he (by simpa using h); simpa using this)
      rw [hrec]
      rfl

theorem seq_len (M : Nat) : ∀ l : List UInt8, l.length ≤ M → (seq l).length ≤ l.length * (M + 2) := by
  intro l
  induction l with
  | nil => intro _; simp [seq, ph, seqF]
  | cons c t ih =>
    intro h
    rw [List.length_cons] at h
    have h1 := ih (by omega)
    have h2 : (t.takeWhile dig).length ≤ t.length := (List.takeWhile_sublist _).length_le
    have e : (c :: t).length * (M + 2) = t.length * (M + 2) + (M + 2) := by rw [List.length_cons, Nat.add_mul, Nat.one_mul]
    rw [e]
    unfold seq at h1 ⊢
    rw [ph]
    by_cases hc : c.toNat = 36
    · rw [if_pos hc]
      have e2 : seqF (t.takeWhile dig :: ph t) = (if keep (t.takeWhile dig) then 36 :: t.takeWhile dig ++ [59] else []) ++ seqF (ph t) := by simp [seqF]
      rw [e2, List.length_append]
      have h3 : (if keep (t.takeWhile dig) then 36 :: t.takeWhile dig ++ [59] else [] : List UInt8).length ≤ t.length + 2 := by
        split
        · simp; omega
        · simp
      omega
    · rw [if_neg hc]; omega

theorem cnt_cons_no {n : Nat} {c : UInt8} {t : List UInt8} (h : ¬ c.toNat = 36) : cnt n (c :: t) = cnt n t := by unfold cnt; rw [ph, if_neg h]
theorem cnt_cons_yes {n : Nat} {c : UInt8} {t : List UInt8} (h : c.toNat = 36) : cnt n (c :: t) = cnt n t + if hit n (t.takeWhile dig) then 1 else 0 := by
  unfold cnt; rw [ph, if_pos h, List.countP_cons]
theorem seq_cons_no {c : UInt8} {t : List UInt8} (h : ¬ c.toNat = 36) : seq (c :: t) = seq t := by unfold seq; rw [ph, if_neg h]
theorem seq_cons_yes {c : UInt8} {t : List UInt8} (h : c.toNat = 36) : seq (c :: t) = (if keep (t.takeWhile dig) then 36 :: t.takeWhile dig ++ [59] else []) ++ seq t := by
  unfold seq; rw [ph, if_pos h]; simp [seqF]
theorem cnt_le (n : Nat) (l : List UInt8) : cnt n l ≤ l.length := by
  induction l with
  | nil => simp [cnt, ph]
  | cons c t ih =>
    by_cases h : c.toNat = 36
    · rw [cnt_cons_yes h, List.length_cons]; split <;> omega
    · rw [cnt_cons_no h, List.length_cons]; omega

end Go.Proofs.Qxb6603356a.Ph
