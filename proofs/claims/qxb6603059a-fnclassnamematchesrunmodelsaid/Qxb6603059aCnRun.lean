/-
  classByRun and className: what each answers, by where the run of letters ends.
-/
import Derived.Test.Qxb6603059aCnWalks
namespace Go.Proofs.Qxb6603059a.Cn
open Go.RowKit

/-- The byte at place k, as a number; -1 beyond the end. -/
def at_ (s : ByteArray) (k : Nat) : Int := if h : k < s.size then (s[k].toNat : Int) else -1
theorem at_eq {s : ByteArray} {k : Nat} (h : k < s.size) : at_ s k = (s[k].toNat : Int) := by simp [at_, h]

theorem at_wrap {s : ByteArray} {k : Nat} (h : k < s.size) : at_ s k = wrap32 (s[k].toNat : Int) := by
  rw [at_eq h]
  have := s[k].toNat_lt
  unfold wrap32
  omega

/-- The run of letters behind the first two bytes ends at k. -/
def IsEnd (s : ByteArray) (k : Nat) : Prop := 2 ≤ k ∧ k ≤ s.size ∧ (∀ j, 2 ≤ j → j < k → isL (at_ s j) = true) ∧ (k < s.size → isL (at_ s k) = false)

theorem IsEnd.one {s : ByteArray} {k l : Nat} (h : IsEnd s k) (g : IsEnd s l) : k = l := by
  obtain ⟨a1, a2, a3, a4⟩ := h
  obtain ⟨b1, b2, b3, b4⟩ := g
  rcases Nat.lt_trichotomy k l with h | h | h
  · have x := b3 k a1 h
    have y := a4 (by omega)
    simp [x] at y
  · exact h
  · have x := a3 l b1 h
    have y := b4 (by omega)
    simp [x] at y

/-- A head '[:'. -/
def Head (s : ByteArray) : Prop := 2 ≤ s.size ∧ at_ s 0 = 91 ∧ at_ s 1 = 58

/-- What the answer is. -/
def Ans (s n : ByteArray) (m : Int) (f : Bool) : Prop :=
  (¬ Head s ∧ n = ByteArray.empty ∧ m = 0 ∧ f = false) ∨
  (Head s ∧ ∃ k, IsEnd s k ∧ ((k + 2 ≤ s.size ∧ at_ s k = 58 ∧ at_ s (k + 1) = 93 ∧ n = s.extract 2 k ∧ m = (k : Int) + 2 ∧ f = true) ∨
    (¬ (k + 2 ≤ s.size ∧ at_ s k = 58 ∧ at_ s (k + 1) = 93) ∧ n = ByteArray.empty ∧ m = 0 ∧ f = false)))

theorem Ans.one {s n n' : ByteArray} {m m' : Int} {f f' : Bool} (h : Ans s n m f) (g : Ans s n' m' f') : n = n' ∧ m = m' ∧ f = f' := by
  rcases h with ⟨h0, rfl, rfl, rfl⟩ | ⟨h0, k, hk, h⟩
  · rcases g with ⟨g0, rfl, rfl, rfl⟩ | ⟨g0, _⟩
    · exact ⟨rfl, rfl, rfl⟩
    · exact absurd g0 h0
  · rcases g with ⟨g0, _⟩ | ⟨g0, l, hl, g⟩
    · exact absurd h0 g0
    · have e := hk.one hl
      subst e
      rcases h with ⟨a, b, c, rfl, rfl, rfl⟩ | ⟨a, rfl, rfl, rfl⟩
      · rcases g with ⟨_, _, _, rfl, rfl, rfl⟩ | ⟨a', _⟩
        · exact ⟨rfl, rfl, rfl⟩
        · exact absurd ⟨a, b, c⟩ a'
      · rcases g with ⟨a', b', c', _⟩ | ⟨_, rfl, rfl, rfl⟩
        · exact absurd ⟨a', b', c'⟩ a
        · exact ⟨rfl, rfl, rfl⟩

/-- A call's end that answers so. -/
def Out (s : ByteArray) (e : Ending) : Prop := ∃ n m f, e = .returned (.tuple #[.string n, .int .i64 m, .bool f]) ∧ Ans s n m f

set_option maxHeartbeats 400000 in
theorem run_short (s : ByteArray) (w : World) (h : ¬ Head s) :
    Calls Try.prog 15 #[.string s] w fun e w' => Out s e ∧ w = w' := by
  by_cases h2 : s.size < 2
  · go_enter Try.func15, Try.ntmps15
    go_wp2
    go_ret3
    exact ⟨⟨_, _, _, rfl, .inl ⟨h, rfl, rfl, rfl⟩⟩, rfl⟩
  · have p0 : 0 < s.size := by omega
    have p1 : 1 < s.size := by omega
    by_cases h3 : (s[0].toNat : Int) = 91
    · have h4 : ¬ (s[1].toNat : Int) = 58 := fun h4 => h ⟨by omega, by rw [at_eq p0]; exact h3, by rw [at_eq p1]; exact h4⟩
      have h3' : ((s[0].toNat : Int) != 91) = false := by simp [h3]
      have h4' : ((s[1].toNat : Int) != 58) = true := by simp [h4]
      clear h3 h4
      go_enter Try.func15, Try.ntmps15
      go_wp2
      go_ret3
      exact ⟨⟨_, _, _, rfl, .inl ⟨h, rfl, rfl, rfl⟩⟩, rfl⟩
    · have h3' : ((s[0].toNat : Int) != 91) = true := by simp [h3]
      clear h3
      go_enter Try.func15, Try.ntmps15
      go_wp2
      go_ret3
      exact ⟨⟨_, _, _, rfl, .inl ⟨h, rfl, rfl, rfl⟩⟩, rfl⟩

set_option maxHeartbeats 400000 in
theorem name_short (s : ByteArray) (w : World) (h : ¬ Head s) :
    Calls Try.prog 22 #[.string s] w fun e w' => Out s e ∧ w = w' := by
  by_cases h2 : s.size < 2
  · go_enter Try.func22, Try.ntmps22
    go_wp2
    go_ret3
    exact ⟨⟨_, _, _, rfl, .inl ⟨h, rfl, rfl, rfl⟩⟩, rfl⟩
  · have p0 : 0 < s.size := by omega
    have p1 : 1 < s.size := by omega
    by_cases h3 : (s[0].toNat : Int) = 91
    · have h4 : ¬ (s[1].toNat : Int) = 58 := fun h4 => h ⟨by omega, by rw [at_eq p0]; exact h3, by rw [at_eq p1]; exact h4⟩
      have h3' : ((s[0].toNat : Int) != 91) = false := by simp [h3]
      have h4' : ((s[1].toNat : Int) != 58) = true := by simp [h4]
      clear h3 h4
      go_enter Try.func22, Try.ntmps22
      go_wp2
      go_ret3
      exact ⟨⟨_, _, _, rfl, .inl ⟨h, rfl, rfl, rfl⟩⟩, rfl⟩
    · have h3' : ((s[0].toNat : Int) != 91) = true := by simp [h3]
      clear h3
      go_enter Try.func22, Try.ntmps22
      go_wp2
      go_ret3
      exact ⟨⟨_, _, _, rfl, .inl ⟨h, rfl, rfl, rfl⟩⟩, rfl⟩

set_option maxHeartbeats 1000000 in
theorem run_long (s : ByteArray) (w : World) (hs : s.size ≤ 1048576) (h : Head s) :
    Calls Try.prog 15 #[.string s] w fun e w' => Out s e ∧ w = w' := by
  have H := h
  obtain ⟨h2, h3, h4⟩ := h
  have p0 : 0 < s.size := by omega
  have p1 : 1 < s.size := by omega
  rw [at_eq p0] at h3
  rw [at_eq p1] at h4
  have h3' : ((s[0].toNat : Int) != 91) = false := by simp [h3]
  have h4' : ((s[1].toNat : Int) != 58) = false := by simp [h4]
  clear h3 h4
  go_enter Try.func15, Try.ntmps15
  go_wp2
  clear h3' h4'
  go_loop [5] (fun i => ∃ k : Nat, 2 ≤ k ∧ k ≤ s.size ∧ i = .int .i64 k ∧ ∀ j, 2 ≤ j → j < k → isL (at_ s j) = true) (fun i => s.size - (intOf i).toNat)
  case atStart => exact ⟨2, by omega, by omega, rfl, fun j a b => by omega⟩
  case round =>
    obtain ⟨k, k2, kn, rfl, hj⟩ := hrel
    have HJ : Hid (∀ j, 2 ≤ j → j < k → isL (at_ s j) = true) := hj
    clear hj
    by_cases hlt : k < s.size
    · by_cases hL : isL (at_ s k) = true
      · have hL' := hL
        rw [at_eq hlt] at hL'
        have HL : Hid (isL (at_ s k) = true) := hL
        clear hL
        go_wp2_with (go_at_call 23; refine (letter _ _).mono ?_; rintro e w' ⟨rfl, rfl⟩)
        go_round
        case rel => 
          refine ⟨k + 1, by omega, by omega, by go_num, fun j a b => ?_⟩
          by_cases e : j = k
          · subst e; exact HL.out
          · exact HJ.out j a (by omega)
        case measure => simp [intOf]; omega
      · have hL' : isL (at_ s k) = false := by simpa using hL
        have HE : Hid (IsEnd s k) := ⟨k2, kn, HJ.out, fun _ => hL'⟩
        rw [at_eq hlt] at hL'
        clear hL
        by_cases c : k + 2 ≤ s.size ∧ at_ s k = 58 ∧ at_ s (k + 1) = 93
        · have C : Hid (k + 2 ≤ s.size ∧ at_ s k = 58 ∧ at_ s (k + 1) = 93) := c
          obtain ⟨c1, c2, c3⟩ := c
          have q1 : k + 1 < s.size := by omega
          rw [at_eq hlt] at c2
          rw [at_eq q1] at c3
          have c2' : ((s[k].toNat : Int) == 58) = true := by simp [c2]
          have c3' : ((s[k + 1].toNat : Int) == 93) = true := by simp [c3]
          clear c2 c3
          go_wp2_with (go_at_call 23; refine (letter _ _).mono ?_; rintro e w' ⟨rfl, rfl⟩)
          go_ret3
          exact ⟨⟨_, _, _, rfl, .inr ⟨H, k, HE.out, .inl ⟨C.out.1, C.out.2.1, C.out.2.2, rfl, by omega, rfl⟩⟩⟩, rfl⟩
        · have C : Hid (¬ (k + 2 ≤ s.size ∧ at_ s k = 58 ∧ at_ s (k + 1) = 93)) := c
          by_cases c1 : k + 2 ≤ s.size
          · have q1 : k + 1 < s.size := by omega
            by_cases c2 : at_ s k = 58
            · have c3 : ¬ at_ s (k + 1) = 93 := fun c3 => c ⟨c1, c2, c3⟩
              rw [at_eq hlt] at c2
              rw [at_eq q1] at c3
              have c2' : ((s[k].toNat : Int) == 58) = true := by simp [c2]
              have c3' : ((s[k + 1].toNat : Int) == 93) = false := by simp [c3]
              clear c c2 c3
              go_wp2_with (go_at_call 23; refine (letter _ _).mono ?_; rintro e w' ⟨rfl, rfl⟩)
              go_ret3
              exact ⟨⟨_, _, _, rfl, .inr ⟨H, k, HE.out, .inr ⟨C.out, rfl, rfl, rfl⟩⟩⟩, rfl⟩
            · rw [at_eq hlt] at c2
              have c2' : ((s[k].toNat : Int) == 58) = false := by simp [c2]
              clear c c2
              go_wp2_with (go_at_call 23; refine (letter _ _).mono ?_; rintro e w' ⟨rfl, rfl⟩)
              go_ret3
              exact ⟨⟨_, _, _, rfl, .inr ⟨H, k, HE.out, .inr ⟨C.out, rfl, rfl, rfl⟩⟩⟩, rfl⟩
          · clear c
            go_wp2_with (go_at_call 23; refine (letter _ _).mono ?_; rintro e w' ⟨rfl, rfl⟩)
            go_ret3
            exact ⟨⟨_, _, _, rfl, .inr ⟨H, k, HE.out, .inr ⟨C.out, rfl, rfl, rfl⟩⟩⟩, rfl⟩
    · have HE : Hid (IsEnd s k) := ⟨k2, kn, HJ.out, fun hlt' => absurd hlt' hlt⟩
      have C : Hid (¬ (k + 2 ≤ s.size ∧ at_ s k = 58 ∧ at_ s (k + 1) = 93)) := fun c => by omega
      go_wp2_with (go_at_call 23; refine (letter _ _).mono ?_; rintro e w' ⟨rfl, rfl⟩)
      go_ret3
      exact ⟨⟨_, _, _, rfl, .inr ⟨H, k, HE.out, .inr ⟨C.out, rfl, rfl, rfl⟩⟩⟩, rfl⟩

set_option maxHeartbeats 1000000 in
theorem name_long (s : ByteArray) (w : World) (hs : s.size ≤ 1048576) (h : Head s) :
    Calls Try.prog 22 #[.string s] w fun e w' => Out s e ∧ w = w' := by
  have H := h
  obtain ⟨h2, h3, h4⟩ := h
  have p0 : 0 < s.size := by omega
  have p1 : 1 < s.size := by omega
  rw [at_eq p0] at h3
  rw [at_eq p1] at h4
  have h3' : ((s[0].toNat : Int) != 91) = false := by simp [h3]
  have h4' : ((s[1].toNat : Int) != 58) = false := by simp [h4]
  clear h3 h4
  go_enter Try.func22, Try.ntmps22
  go_wp2
  clear h3' h4'
  go_loop [5] (fun i => ∃ k : Nat, 2 ≤ k ∧ k ≤ s.size ∧ i = .int .i64 k ∧ ∀ j, 2 ≤ j → j < k → isL (at_ s j) = true) (fun i => s.size - (intOf i).toNat)
  case atStart => exact ⟨2, by omega, by omega, rfl, fun j a b => by omega⟩
  case round =>
    obtain ⟨k, k2, kn, rfl, hj⟩ := hrel
    have HJ : Hid (∀ j, 2 ≤ j → j < k → isL (at_ s j) = true) := hj
    clear hj
    by_cases hlt : k + 1 < s.size
    · have q : k < s.size := by omega
      by_cases c : at_ s k = 58 ∧ at_ s (k + 1) = 93
      · have C : Hid (k + 2 ≤ s.size ∧ at_ s k = 58 ∧ at_ s (k + 1) = 93) := ⟨by omega, c⟩
        have HE : Hid (IsEnd s k) := ⟨k2, kn, HJ.out, fun _ => by rw [c.1]; decide⟩
        obtain ⟨c2, c3⟩ := c
        rw [at_eq q] at c2
        rw [at_eq hlt] at c3
        have c2' : ((s[k].toNat : Int) == 58) = true := by simp [c2]
        have c3' : ((s[k + 1].toNat : Int) == 93) = true := by simp [c3]
        clear c2 c3
        go_wp2_with (go_at_call 27; refine (alpha _ _).mono ?_; rintro e w' ⟨rfl, rfl⟩)
        go_ret3
        exact ⟨⟨_, _, _, rfl, .inr ⟨H, k, HE.out, .inl ⟨C.out.1, C.out.2.1, C.out.2.2, rfl, by omega, rfl⟩⟩⟩, rfl⟩
      · have C : Hid (¬ (k + 2 ≤ s.size ∧ at_ s k = 58 ∧ at_ s (k + 1) = 93)) := fun x => c x.2
        by_cases c2 : at_ s k = 58
        · have c3 : ¬ at_ s (k + 1) = 93 := fun c3 => c ⟨c2, c3⟩
          have hL : isL (at_ s k) = false := by rw [c2]; decide
          have HE : Hid (IsEnd s k) := ⟨k2, kn, HJ.out, fun _ => hL⟩
          rw [at_wrap q] at hL
          rw [at_eq q] at c2
          rw [at_eq hlt] at c3
          have c2' : ((s[k].toNat : Int) == 58) = true := by simp [c2]
          have c3' : ((s[k + 1].toNat : Int) == 93) = false := by simp [c3]
          clear c c2 c3
          go_wp2_with (go_at_call 27; refine (alpha _ _).mono ?_; rintro e w' ⟨rfl, rfl⟩)
          go_ret3
          exact ⟨⟨_, _, _, rfl, .inr ⟨H, k, HE.out, .inr ⟨C.out, rfl, rfl, rfl⟩⟩⟩, rfl⟩
        · by_cases hL : isL (at_ s k) = true
          · have HL : Hid (isL (at_ s k) = true) := hL
            rw [at_wrap q] at hL
            rw [at_eq q] at c2
            have c2' : ((s[k].toNat : Int) == 58) = false := by simp [c2]
            clear c c2
            go_wp2_with (go_at_call 27; refine (alpha _ _).mono ?_; rintro e w' ⟨rfl, rfl⟩)
            go_round
            case rel =>
              refine ⟨k + 1, by omega, by omega, by go_num, fun j a b => ?_⟩
              by_cases e : j = k
              · subst e; exact HL.out
              · exact HJ.out j a (by omega)
            case measure => simp [intOf]; omega
          · have hL' : isL (at_ s k) = false := by simpa using hL
            have HE : Hid (IsEnd s k) := ⟨k2, kn, HJ.out, fun _ => hL'⟩
            clear hL
            rw [at_wrap q] at hL'
            rw [at_eq q] at c2
            have c2' : ((s[k].toNat : Int) == 58) = false := by simp [c2]
            clear c c2
            go_wp2_with (go_at_call 27; refine (alpha _ _).mono ?_; rintro e w' ⟨rfl, rfl⟩)
            go_ret3
            exact ⟨⟨_, _, _, rfl, .inr ⟨H, k, HE.out, .inr ⟨C.out, rfl, rfl, rfl⟩⟩⟩, rfl⟩
    · have E : Hid (∃ l, IsEnd s l ∧ ¬ (l + 2 ≤ s.size ∧ at_ s l = 58 ∧ at_ s (l + 1) = 93)) := by
        by_cases q : k < s.size
        · by_cases hL : isL (at_ s k) = true
          · refine ⟨k + 1, ⟨by omega, by omega, fun j a b => ?_, fun x => absurd x hlt⟩, fun x => by omega⟩
            by_cases e : j = k
            · subst e; exact hL
            · exact HJ.out j a (by omega)
          · exact ⟨k, ⟨k2, kn, HJ.out, fun _ => by simpa using hL⟩, fun x => by omega⟩
        · exact ⟨k, ⟨k2, kn, HJ.out, fun x => absurd x q⟩, fun x => by omega⟩
      go_wp2_with (go_at_call 27; refine (alpha _ _).mono ?_; rintro e w' ⟨rfl, rfl⟩)
      go_ret3
      obtain ⟨l, e1, e2⟩ := E.out
      exact ⟨⟨_, _, _, rfl, .inr ⟨H, l, e1, .inr ⟨e2, rfl, rfl, rfl⟩⟩⟩, rfl⟩

theorem run_any (s : ByteArray) (w : World) (hs : s.size ≤ 1048576) :
    Calls Try.prog 15 #[.string s] w fun e w' => Out s e ∧ w = w' := by
  by_cases h : Head s
  · exact run_long s w hs h
  · exact run_short s w h

theorem name_any (s : ByteArray) (w : World) (hs : s.size ≤ 1048576) :
    Calls Try.prog 22 #[.string s] w fun e w' => Out s e ∧ w = w' := by
  by_cases h : Head s
  · exact name_long s w hs h
  · exact name_short s w h

set_option maxHeartbeats 400000 in
theorem zzname (s : ByteArray) (w : World) (hs : s.size ≤ 1048576) :
    Calls Try.prog 14 #[.string s] w fun e w' => Out s e ∧ w = w' := by
  go_enter Try.func14, Try.ntmps14
  go_wp2_with fail
  refine (name_any s _ hs).mono ?_
  rintro e w' ⟨⟨n, m, f, rfl, ha⟩, rfl⟩
  have HA : Hid (Ans s n m f) := ha
  clear ha
  go_wp2
  go_ret3
  exact ⟨⟨_, _, _, rfl, HA.out⟩, rfl⟩

end Go.Proofs.Qxb6603059a.Cn
