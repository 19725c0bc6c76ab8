/-
  zzHeldIsLeavers: what its yes says.
-/
import Derived.Test.Qxb6603178aMem
namespace Go.Proofs.Qxb6603178a.Cube

theorem nodup_sub_len : ∀ (l1 l2 : List Nat), l1.Nodup → (∀ x ∈ l1, x ∈ l2) → l1.length ≤ l2.length := by
  intro l1
  induction l1 with
  | nil => intros; simp
  | cons a t ih =>
    intro l2 hn hs
    rw [List.nodup_cons] at hn
    have h1 := ih (l2.erase a) hn.2 (fun x hx => (List.mem_erase_of_ne (fun e => by subst e; exact hn.1 hx)).2 (hs x (by simp [hx])))
    have h2 := List.length_erase_of_mem (hs a (by simp))
    have h3 := List.length_pos_of_mem (hs a (by simp))
    simp only [List.length_cons]
    omega

/-- How many positions below k the leaver holds. -/
def cnt (hs : Nat → Int) (lv : Int) : Nat → Nat
  | 0 => 0
  | k + 1 => cnt hs lv k + if hs k = lv then 1 else 0

theorem cnt_le (hs : Nat → Int) (lv : Int) (k : Nat) : cnt hs lv k ≤ k := by
  induction k with
  | zero => simp [cnt]
  | succ k ih => unfold cnt; split <;> omega

theorem cnt_yes {hs : Nat → Int} {lv : Int} {k : Nat} (h : hs k = lv) : cnt hs lv (k + 1) = cnt hs lv k + 1 := by simp [cnt, h]
theorem cnt_no {hs : Nat → Int} {lv : Int} {k : Nat} (h : ¬ hs k = lv) : cnt hs lv (k + 1) = cnt hs lv k := by simp [cnt, h]

/-- The leaver's positions below k. -/
def lvs (hs : Nat → Int) (lv : Int) : Nat → List Nat
  | 0 => []
  | k + 1 => if hs k = lv then k :: lvs hs lv k else lvs hs lv k

theorem len_lvs (hs : Nat → Int) (lv : Int) (k : Nat) : (lvs hs lv k).length = cnt hs lv k := by
  induction k with
  | zero => rfl
  | succ k ih => unfold lvs cnt; split <;> simp [ih]

theorem mem_lvs (hs : Nat → Int) (lv : Int) (k x : Nat) : x ∈ lvs hs lv k ↔ x < k ∧ hs x = lv := by
  induction k with
  | zero => simp [lvs]
  | succ k ih =>
    unfold lvs
    by_cases e : hs k = lv
    · rw [if_pos e, List.mem_cons, ih]
      constructor
      · rintro (rfl | h)
        · exact ⟨by omega, e⟩
        · exact ⟨by omega, h.2⟩
      · rintro ⟨h1, h2⟩
        by_cases ex : x = k
        · exact .inl ex
        · exact .inr ⟨by omega, h2⟩
    · rw [if_neg e, ih]
      constructor
      · rintro ⟨h1, h2⟩; exact ⟨by omega, h2⟩
      · rintro ⟨h1, h2⟩
        refine ⟨?_, h2⟩
        by_cases ex : x = k
        · subst ex; exact absurd h2 e
        · omega

/-- The list of held positions is just the leaver's. -/
def HeldOk (hs : Nat → Int) (lv : Int) (n : Nat) (H : List Nat) : Prop := H.Nodup ∧ ∀ x, x ∈ H ↔ x < n ∧ hs x = lv

theorem heldOk {hs : Nat → Int} {lv : Int} {n : Nat} {H : List Nat} (hn : H.Nodup) (hm : ∀ x ∈ H, x < n ∧ hs x = lv) (hc : cnt hs lv n = H.length) : HeldOk hs lv n H := by
  refine ⟨hn, fun x => ⟨hm x, fun hx => Classical.byContradiction fun hne => ?_⟩⟩
  have h1 : (x :: H).Nodup := List.nodup_cons.2 ⟨hne, hn⟩
  have h2 := nodup_sub_len (x :: H) (lvs hs lv n) h1 (fun y hy => by
    rw [mem_lvs]
    rcases List.mem_cons.1 hy with rfl | h
    · exact hx
    · exact hm y h)
  rw [len_lvs, hc, List.length_cons] at h2
  omega

end Go.Proofs.Qxb6603178a.Cube

namespace Go.Proofs.Qxb6603178a.Hw
open Go.RowKit Cube

/-- Seen among the first k. -/
def seenB (g : Nat → Int) : Nat → Nat → Bool
  | 0, _ => false
  | k + 1, x => (g k == (x : Int)) || seenB g k x

theorem seenB_iff (g : Nat → Int) (k x : Nat) : seenB g k x = true ↔ ∃ j, j < k ∧ g j = (x : Int) := by
  induction k with
  | zero => simp [seenB]
  | succ k ih =>
    simp only [seenB, Bool.or_eq_true, beq_iff_eq, ih]
    constructor
    · rintro (h | ⟨j, h1, h2⟩)
      · exact ⟨k, by omega, h⟩
      · exact ⟨j, by omega, h2⟩
    · rintro ⟨j, h1, h2⟩
      by_cases e : j = k
      · subst e; exact .inl h2
      · exact .inr ⟨j, by omega, h2⟩

/-- Of the first k: each is a position that the leaver holds, no two are one. -/
def Good (hs : Nat → Int) (lv : Int) (n : Nat) (g : Nat → Int) (k : Nat) : Prop :=
  (∀ i, i < k → ∃ x : Nat, g i = (x : Int) ∧ x < n ∧ hs x = lv) ∧ ∀ i j, i < j → j < k → g i ≠ g j

/-- What a yes of zzHeldIsLeavers says. -/
def SaysHeld (hs : Nat → Int) (lv : Int) (n : Nat) (g : Nat → Int) (m : Nat) (r : Bool) : Prop :=
  r = true → Good hs lv n g m ∧ cnt hs lv n = m

/-- What lies where. -/
def Elems (w : World) (b off len : Nat) (f : Nat → Int) : Prop := ∀ j, j < len → w.cell? ⟨b, off + j, none⟩ = some (.int .i32 (f j))

set_option maxHeartbeats 1000000 in
theorem held0 (b1 o1 : Nat) (a2 : Option Addr) (n c1 m c2 : Nat) (lv : Int) (hs g : Nat → Int) (w : World) (hn : n ≤ 4096) (hm : m ≤ 0) (hc1 : Elems w b1 o1 n hs) :
    Calls Try.prog 23 #[.slice (some ⟨b1, o1, none⟩) n c1, .int .i32 lv, .slice a2 m c2] w fun e w' => OutB (SaysHeld hs lv n g m) e ∧ w.grownBy w' none := by
  have hmk := fun w => run_make_row' (P := Try.prog) 34 4 (.bool false) 1 Try.underlying34 info4 rfl .i64 .i64 n (by omega) (by omega) w
  have HC1 : Hid (Elems w b1 o1 n hs) := hc1
  clear hc1
  go_enter Try.func23, Try.ntmps23
  go_wp2
  clear hmk
  go_loopw [9] (fun i wr => ∃ k : Nat, k ≤ m ∧ i = .int .i64 k ∧ wr.rowIs w.heap.size 4 n (fun x => .bool (seenB g k x)) ∧ w.grownBy wr none ∧ Good hs lv n g k) (fun i _ => m - (intOf i).toNat)
  case atStart => exact ⟨0, by omega, rfl, World.rowIs_made w _ n 4, World.grownBy_alloc _ _ _, fun i hi => by omega, fun i j _ hj => by omega⟩
  case round =>
    obtain ⟨k, hk, rfl, hB, hG, hgd⟩ := hrel
    have HB : Hid (wr.rowIs w.heap.size 4 n (fun x => .bool (seenB g k x))) := hB
    have HG : Hid (w.grownBy wr none) := hG
    have HD : Hid (Good hs lv n g k) := hgd
    clear hB hG hgd
    have hlt : ¬ k < m := by omega
    go_wp2
    go_loop [11, 12] (fun c i => ∃ j : Nat, j ≤ n ∧ i = .int .i64 j ∧ c = .int .i64 (cnt hs lv j)) (fun _ i => n - (intOf i).toNat)
    case atStart => exact ⟨0, by omega, rfl, rfl⟩
    case round =>
      obtain ⟨j, hj, rfl, rfl⟩ := hrel
      have hcl := cnt_le hs lv j
      by_cases hjn : j < n
      · have hcell := HG.out.cell (HC1.out j hjn) (by simp)
        by_cases he : hs j = lv
        · have he' : (hs j == lv) = true := by simp [he]
          have HE : Hid (cnt hs lv (j + 1) = cnt hs lv j + 1) := cnt_yes he
          clear he
          go_wp2
          go_round
          case rel => exact ⟨j + 1, by omega, by go_num, by rw [HE.out]; go_num⟩
          case measure => simp [intOf]; omega
        · have he' : (hs j == lv) = false := by simp [he]
          have HE : Hid (cnt hs lv (j + 1) = cnt hs lv j) := cnt_no he
          clear he
          go_wp2
          go_round
          case rel => exact ⟨j + 1, by omega, by go_num, by rw [HE.out]⟩
          case measure => simp [intOf]; omega
      · go_wp2
        go_ret
        refine ⟨.mk fun h => ?_, HG.out⟩
        have ej : j = n := by omega
        have ek : k = m := by omega
        subst ej; subst ek
        exact ⟨HD.out, by have h2 := beq_iff_eq.1 h; omega⟩

set_option maxHeartbeats 1000000 in
theorem held1 (b1 o1 b2 o2 : Nat) (n c1 m c2 : Nat) (lv : Int) (hs g : Nat → Int) (w : World) (hn : n ≤ 4096) (hm : m ≤ 1048576) (hc1 : Elems w b1 o1 n hs) (hc2 : Elems w b2 o2 m g) (hb2 : ∀ j, j < m → -2147483648 ≤ g j ∧ g j ≤ 2147483647) :
    Calls Try.prog 23 #[.slice (some ⟨b1, o1, none⟩) n c1, .int .i32 lv, .slice (some ⟨b2, o2, none⟩) m c2] w fun e w' => OutB (SaysHeld hs lv n g m) e ∧ w.grownBy w' none := by
  have hmk := fun w => run_make_row' (P := Try.prog) 34 4 (.bool false) 1 Try.underlying34 info4 rfl .i64 .i64 n (by omega) (by omega) w
  have HC1 : Hid (Elems w b1 o1 n hs) := hc1
  clear hc1
  have HC2 : Hid (Elems w b2 o2 m g) := hc2
  have HB2 : Hid (∀ j, j < m → -2147483648 ≤ g j ∧ g j ≤ 2147483647) := hb2
  clear hc2 hb2
  go_enter Try.func23, Try.ntmps23
  go_wp2
  clear hmk
  go_loopw [9] (fun i wr => ∃ k : Nat, k ≤ m ∧ i = .int .i64 k ∧ wr.rowIs w.heap.size 4 n (fun x => .bool (seenB g k x)) ∧ w.grownBy wr none ∧ Good hs lv n g k) (fun i _ => m - (intOf i).toNat)
  case atStart => exact ⟨0, by omega, rfl, World.rowIs_made w _ n 4, World.grownBy_alloc _ _ _, fun i hi => by omega, fun i j _ hj => by omega⟩
  case round =>
    obtain ⟨k, hk, rfl, hB, hG, hgd⟩ := hrel
    have HB : Hid (wr.rowIs w.heap.size 4 n (fun x => .bool (seenB g k x))) := hB
    have HG : Hid (w.grownBy wr none) := hG
    have HD : Hid (Good hs lv n g k) := hgd
    clear hB hG hgd
    by_cases hlt : k < m
    · have hcell := HG.out.cell (HC2.out k hlt) (by simp)
      have hbd := HB2.out k hlt
      by_cases x0 : g k < 0
      · go_wp2
        go_ret
        exact ⟨.mk (r := false) (fun h => by cases h), HG.out⟩
      · by_cases x1 : (n : Int) ≤ g k
        · go_wp2
          go_ret
          exact ⟨.mk (r := false) (fun h => by cases h), HG.out⟩
        · obtain ⟨x, hx⟩ := Int.eq_ofNat_of_zero_le (show 0 ≤ g k by omega)
          rw [hx] at hcell hbd x0 x1
          have HX : Hid (g k = (x : Int)) := hx
          clear hx
          have hxn : x < n := by omega
          have hcx := HG.out.cell (HC1.out x hxn) (by simp)
          have hcs := World.rowIs.cell HB.out hxn
          have hfz := World.rowIs.frozen HB.out x
          by_cases he : hs x = lv
          · have he' : (hs x != lv) = false := by simp [he]
            have HE : Hid (hs x = lv) := he
            clear he
            by_cases hsn : seenB g k x = true
            · go_wp2
              go_ret
              exact ⟨.mk (r := false) (fun h => by cases h), HG.out⟩
            · have hsn' : seenB g k x = false := by simpa using hsn
              have HS : Hid (¬ ∃ j, j < k ∧ g j = (x : Int)) := fun h => hsn ((seenB_iff g k x).2 h)
              clear hsn
              go_wp2
              go_roundw
              case rel =>
                refine ⟨k + 1, by omega, by go_num, (HB.out.set x _).congr (fun y hy => ?_), gr_set HG.out _ (.inr (Nat.le_refl _)), fun i hi => ?_, fun i j hij hj => ?_⟩
                · simp only [seenB]
                  rw [HX.out]
                  by_cases e : y = x
                  · subst e; simp
                  · have e2 : ((x : Int) == (y : Int)) = false := by simp; omega
                    rw [if_neg e, e2, Bool.false_or]
                · by_cases e : i = k
                  · subst e; exact ⟨x, HX.out, hxn, HE.out⟩
                  · exact HD.out.1 i (by omega)
                · by_cases e : j = k
                  · subst e; rw [HX.out]; exact fun h => HS.out ⟨i, hij, h⟩
                  · exact HD.out.2 i j hij (by omega)
              case measure => simp [intOf]; omega
          · have he' : (hs x != lv) = true := by simp [he]
            clear he
            go_wp2
            go_ret
            exact ⟨.mk (r := false) (fun h => by cases h), HG.out⟩
    · go_wp2
      go_loop [11, 12] (fun c i => ∃ j : Nat, j ≤ n ∧ i = .int .i64 j ∧ c = .int .i64 (cnt hs lv j)) (fun _ i => n - (intOf i).toNat)
      case atStart => exact ⟨0, by omega, rfl, rfl⟩
      case round =>
        obtain ⟨j, hj, rfl, rfl⟩ := hrel
        have hcl := cnt_le hs lv j
        by_cases hjn : j < n
        · have hcell := HG.out.cell (HC1.out j hjn) (by simp)
          by_cases he : hs j = lv
          · have he' : (hs j == lv) = true := by simp [he]
            have HE : Hid (cnt hs lv (j + 1) = cnt hs lv j + 1) := cnt_yes he
            clear he
            go_wp2
            go_round
            case rel => exact ⟨j + 1, by omega, by go_num, by rw [HE.out]; go_num⟩
            case measure => simp [intOf]; omega
          · have he' : (hs j == lv) = false := by simp [he]
            have HE : Hid (cnt hs lv (j + 1) = cnt hs lv j) := cnt_no he
            clear he
            go_wp2
            go_round
            case rel => exact ⟨j + 1, by omega, by go_num, by rw [HE.out]⟩
            case measure => simp [intOf]; omega
        · go_wp2
          go_ret
          refine ⟨.mk fun h => ?_, HG.out⟩
          have ej : j = n := by omega
          have ek : k = m := by omega
          subst ej; subst ek
          exact ⟨HD.out, by have h2 := beq_iff_eq.1 h; omega⟩

theorem heldIsLeavers (a1 a2 : Option Addr) (n c1 m c2 : Nat) (lv : Int) (hs g : Nat → Int) (w : World) (hn : n ≤ 4096) (hn0 : 0 < n) (hm : m ≤ 1048576) (h1 : Row w a1 n hs) (h2 : Row w a2 m g) :
    Calls Try.prog 23 #[.slice a1 n c1, .int .i32 lv, .slice a2 m c2] w fun e w' => OutB (SaysHeld hs lv n g m) e ∧ w.grownBy w' none := by
  rcases h1 with h1 | ⟨b1, o1, rfl, hc1, _⟩
  · omega
  rcases h2 with h2 | ⟨b2, o2, rfl, hc2, hb2⟩
  · exact held0 b1 o1 a2 n c1 m c2 lv hs g w hn (by omega) hc1
  · exact held1 b1 o1 b2 o2 n c1 m c2 lv hs g w hn hm hc1 hc2 hb2

end Go.Proofs.Qxb6603178a.Hw
