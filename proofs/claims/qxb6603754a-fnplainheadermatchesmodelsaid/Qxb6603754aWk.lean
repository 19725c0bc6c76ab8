/-
  The walks of FnPlainHeaderMatchesModel's callees.
-/
import Derived.Test.Qxb6603754aRows
import Derived.Test.Qxb6603754aPlain
import Derived.WalkKit
import Derived.WalkSpells
import Derived.WalkLawsBesides
import Derived.Deep.OwnRows
namespace Go.Proofs.Qxb6603754a.Hw
open Go.RowKit Hd

theorem gr_refl (w : World) (r : Option Nat) : w.grownBy w r := ⟨rfl, rfl, rfl, Nat.le_refl _, fun _ _ _ => rfl⟩
theorem gr_set {w w1 : World} (h : w.grownBy w1 none) {a : Addr} (v : Value) (ha : w.heap.size ≤ a.block) : w.grownBy (w1.setCell a v) none :=
  ⟨h.os, h.tape, h.output, by simpa using h.size, fun k hk hne => (Below.heap_setCell w1 a v k (by omega)).trans (h.block k hk hne)⟩
theorem gr_below {w w1 : World} (h : w.grownBy w1 none) : Below w.heap.size w w1 :=
  ⟨h.os, h.tape, h.output, h.size, fun k hk => h.block k hk (by simp)⟩

/-- A slice of bytes as a walk is told of it. -/
def Row (w : World) (a : Option Addr) (len : Nat) (f : Nat → Int) : Prop :=
  len = 0 ∨ ∃ b off, a = some ⟨b, off, none⟩ ∧ (∀ j, j < len → w.cell? ⟨b, off + j, none⟩ = some (.int .u8 (f j))) ∧ ∀ j, j < len → 0 ≤ f j ∧ f j ≤ 255

/-- A block of bytes. -/
def Blk (w : World) (b n : Nat) (f : Nat → Int) : Prop := w.rowIs b 5 n (fun j => .int .u8 (f j))
theorem Blk.cell {w : World} {b n : Nat} {f : Nat → Int} (h : Blk w b n f) {j : Nat} (hj : j < n) : w.cell? ⟨b, j, none⟩ = some (.int .u8 (f j)) := World.rowIs.cell h hj
theorem Blk.frozen {w : World} {b n : Nat} {f : Nat → Int} (h : Blk w b n f) (j : Nat) : w.frozen? ⟨b, j, none⟩ = false := World.rowIs.frozen h j
theorem Blk.congr {w : World} {b n : Nat} {f g : Nat → Int} (h : Blk w b n f) (e : ∀ j, j < n → f j = g j) : Blk w b n g := World.rowIs.congr h (fun j hj => by rw [e j hj])
theorem Blk.set {w : World} {b n : Nat} {f : Nat → Int} (h : Blk w b n f) (j : Nat) (v : Int) : Blk (w.setCell ⟨b, j, none⟩ (.int .u8 v)) b n (fun i => if i = j then v else f i) :=
  World.rowIs.congr (World.rowIs.set h j (.int .u8 v)) (fun i _ => by dsimp only; split <;> rfl)
theorem Blk.made (w : World) (n : Nat) : Blk (w.alloc (.cells (madeCells #[.int .u8 0] n) 5)) w.heap.size n (fun _ => 0) := World.rowIs_made w _ n 5

theorem info5 : (Try.prog.info? 5).map (fun i => (i.zero, i.size, i.bytes)) = some (some (.int .u8 0), 1, 1) := by kernel_rfl

/-- What the clone is: empty, or a new block with the same bytes. -/
def Cloned (w w' : World) (len : Nat) (f : Nat → Int) (e : Ending) : Prop :=
  ∃ ah, e = .returned (.slice ah len len) ∧ (len = 0 ∨ (ah = some ⟨w.heap.size, 0, none⟩ ∧ Blk w' w.heap.size len f))

set_option maxHeartbeats 400000 in
theorem clone (a : Option Addr) (len cap : Nat) (f : Nat → Int) (w : World) (hl : len ≤ 1048576) (hn : a = none → len = 0 ∧ cap = 0) (hr : Row w a len f) :
    Calls Try.prog 7 #[.slice a len cap] w fun e w' => Cloned w w' len f e ∧ w.grownBy w' none := by
  have hmk := fun w => run_make_row' (P := Try.prog) 22 5 (.int .u8 0) 1 Try.underlying22 info5 rfl .i64 .i64 len (by omega) (by omega) w
  have heq := fun (w : World) (a : Option Addr) (l c : Nat) => Lib.run_eql_slice_nil (P := Try.prog) w 22 5 a l c 0 0 Try.underlying22
  cases a with
  | none =>
    obtain ⟨rfl, rfl⟩ := hn rfl
    clear hmk hr
    go_enter Try.func7, Try.ntmps7
    go_wp2
    go_ret
    exact ⟨⟨none, rfl, .inl rfl⟩, gr_refl _ _⟩
  | some ad =>
    clear hn
    rcases hr with h0 | ⟨b, off, e, hc, hb⟩
    · have h1 : len ≤ 0 := by omega
      have H0 : Hid (len = 0) := h0
      clear h0
      go_enter Try.func7, Try.ntmps7
      go_wp2
      clear hmk heq
      go_loop [4] (fun i => i = .int .i64 0) (fun _ => 0)
      case atStart => rfl
      case round =>
        subst hrel
        go_wp2
        go_ret
        exact ⟨⟨_, rfl, .inl H0.out⟩, World.grownBy_alloc _ _ _⟩
    · cases e
      go_enter Try.func7, Try.ntmps7
      go_wp2
      clear hmk heq
      go_loopw [4] (fun i wr => ∃ k : Nat, k ≤ len ∧ i = .int .i64 k ∧ Blk wr w.heap.size len (fun j => if j < k then f j else 0) ∧ w.grownBy wr none) (fun i _ => len - (intOf i).toNat)
      case atStart => exact ⟨0, by omega, rfl, Blk.congr (Blk.made w len) (fun j hj => by simp), World.grownBy_alloc _ _ _⟩
      case round =>
        obtain ⟨k, hk, rfl, hB, hG⟩ := hrel
        by_cases hlt : k < len
        · have hcell := hG.cell (hc k hlt) (by simp)
          have hcw := hB.cell hlt
          have hfz := hB.frozen k
          have HB : Hid (Blk wr w.heap.size len (fun j => if j < k then f j else 0)) := hB
          have HG : Hid (w.grownBy wr none) := hG
          clear hc hb hB hG
          go_wp2
          go_roundw
          case rel =>
            refine ⟨k + 1, by omega, by go_num, (HB.out.set k (f k)).congr (fun j hj => ?_), gr_set HG.out _ (Nat.le_refl _)⟩
            by_cases e : j = k
            · subst e; simp
            · by_cases e2 : j < k
              · rw [if_neg e, if_pos e2, if_pos (by omega)]
              · rw [if_neg e, if_neg e2, if_neg (by omega)]
          case measure => simp [intOf]; omega
        · have HB : Hid (Blk wr w.heap.size len (fun j => if j < k then f j else 0)) := hB
          have HG : Hid (w.grownBy wr none) := hG
          clear hc hb hB hG
          go_wp2
          go_ret
          exact ⟨⟨_, rfl, .inr ⟨rfl, HB.out.congr (fun j hj => by rw [if_pos (by omega)])⟩⟩, HG.out⟩

set_option maxHeartbeats 400000 in
theorem bytesYes (a : Option Addr) (len cap : Nat) (kind : Int) (w : World) (h : len ≤ 1048576) :
    Calls Try.prog 10 #[.slice a len cap, .int .u8 kind] w fun e w' => e = .returned (.bool true) ∧ w = w' := by
  go_enter Try.func10, Try.ntmps10
  go_wp2
  go_ret
  exact ⟨rfl, rfl⟩

set_option maxHeartbeats 400000 in
theorem bytesNo (a : Option Addr) (len cap : Nat) (kind : Int) (w : World) (h : 1048576 < len) :
    Calls Try.prog 10 #[.slice a len cap, .int .u8 kind] w fun e w' => e = .returned (.bool false) ∧ w = w' := by
  go_enter Try.func10, Try.ntmps10
  go_wp2
  go_ret
  exact ⟨rfl, rfl⟩

/-- A digit. -/
def isD (c : Int) : Bool := decide (48 ≤ c ∧ c ≤ 57)
theorem isD_yes {c : Int} (h : 48 ≤ c ∧ c ≤ 57) : isD c = true := by simp [isD, h]
theorem isD_no {c : Int} (h : ¬ (48 ≤ c ∧ c ≤ 57)) : isD c = false := by simp [isD, h]

set_option maxHeartbeats 400000 in
theorem digit (c : Int) (w : World) : Calls Try.prog 14 #[.int .u8 c] w fun e w' => e = .returned (.bool (isD c)) ∧ w = w' := by
  by_cases h1 : 48 ≤ c
  · by_cases h2 : c ≤ 57
    · rw [isD_yes ⟨h1, h2⟩]
      go_enter Try.func14, Try.ntmps14
      go_wp2
      go_ret
      exact ⟨rfl, rfl⟩
    · rw [isD_no (by omega)]
      go_enter Try.func14, Try.ntmps14
      go_wp2
      go_ret
      exact ⟨rfl, rfl⟩
  · rw [isD_no (by omega)]
    go_enter Try.func14, Try.ntmps14
    go_wp2
    go_ret
    exact ⟨rfl, rfl⟩

set_option maxHeartbeats 400000 in
theorem placeValue (g n c : Nat) (f : Nat → Int) (j : Nat) (w : World) (hj : j ≤ 10) (hjn : j < n) (hj1 : 1 ≤ j) (hB : Blk w g n f) (hd : digits f j) :
    Calls Try.prog 15 #[.slice (some ⟨g, 0, none⟩) n c, .int .i64 1, .int .i64 j] w fun e w' => e = .returned (.int .i64 (V f (j - 1))) ∧ w = w' := by
  have HB : Hid (Blk w g n f) := hB
  have HD : Hid (digits f j) := hd
  clear hB hd
  go_enter Try.func15, Try.ntmps15
  go_wp2
  go_loop [7, 8, 9] (fun v p i => ∃ (k : Nat) (vv pp : Int), k + 1 ≤ j ∧ i = .int .i64 k ∧ v = .int .i64 vv ∧ p = .int .i64 pp ∧ pp = (10 : Int) ^ (j - 1 - k) ∧ V f (j - 1) = V f k * pp + vv ∧ 0 ≤ vv ∧ vv < pp) (fun _ _ i => (intOf i).toNat)
  case atStart => exact ⟨j - 1, 0, 1, by omega, by go_num, rfl, rfl, by simp, by simp, by omega, by omega⟩
  case round =>
    obtain ⟨k, vv, pp, hk, rfl, rfl, rfl, hp, hV, hv0, hv1⟩ := hrel
    have HP : Hid (pp = (10 : Int) ^ (j - 1 - k)) := hp
    have HV : Hid (V f (j - 1) = V f k * pp + vv) := hV
    have hpb : pp ≤ 1000000000 := by rw [hp]; exact pow_le_9 (by omega)
    clear hp hV
    by_cases h1 : 1 ≤ k
    · have hcell := HB.out.cell (j := k) (by omega)
      obtain ⟨c', hc'⟩ : ∃ c', c' = f k := ⟨_, rfl⟩
      rw [← hc'] at hcell
      have hd1 := HD.out k h1 (by omega)
      rw [← hc'] at hd1
      obtain ⟨hd1, hd2⟩ := hd1
      have hm0 : 0 ≤ (c' - 48) * pp := Int.mul_nonneg (by omega) (by omega)
      have hm1 : (c' - 48) * pp ≤ 9 * pp := Int.mul_le_mul_of_nonneg_right (by omega) (by omega)
      have HC : Hid (c' = f k) := hc'
      clear hc'
      go_wp2
      obtain ⟨q, rfl⟩ : ∃ q, k = q + 1 := ⟨k - 1, by omega⟩
      go_round
      case rel =>
        refine ⟨q, vv + (c' - 48) * pp, pp * 10, by omega, by go_num, rfl, rfl, ?_, ?_, by omega, by omega⟩
        · rw [HP.out, ← Int.pow_succ]
          congr 1
          omega
        · rw [HV.out, V, ← HC.out, Int.add_mul, Int.mul_assoc, Int.mul_comm 10 pp]
          omega
      case measure => simp [intOf]
    · have HF : Hid (V f (j - 1) = vv) := by
        have h := HV.out
        have e : k = 0 := by omega
        rw [e, V] at h
        show V f (j - 1) = vv
        omega
      go_wp2
      go_ret
      exact ⟨by rw [HF.out]; rfl, rfl⟩

/-- A call's end that answers so. -/
def Out (f : Nat → Int) (n : Nat) (kind : Int) (e : Ending) : Prop := ∃ l m ok, e = .returned (.tuple #[.int .i64 l, .int .i64 m, .bool ok]) ∧ Ans f n kind l m ok
theorem Out.no {f : Nat → Int} {n : Nat} {kind : Int} (h : ¬ ∃ j, Hd.Good f n kind j) : Out f n kind (.returned (.tuple #[.int .i64 0, .int .i64 0, .bool false])) := ⟨_, _, _, rfl, .inr ⟨h, rfl, rfl, rfl⟩⟩
theorem Out.yes {f : Nat → Int} {n : Nat} {kind : Int} {j : Nat} {l m : Int} (h : Hd.Good f n kind j) (hl : l = V f (j - 1)) (hm : m = (j : Int) + 2) : Out f n kind (.returned (.tuple #[.int .i64 l, .int .i64 m, .bool true])) := ⟨_, _, _, rfl, .inl ⟨j, h, hl, hm, rfl⟩⟩

/-! ### The model -/
set_option maxHeartbeats 400000 in
theorem model_empty (a : Option Addr) (n c : Nat) (f : Nat → Int) (kind : Int) (w : World) (hn : n ≤ 0) :
    Calls Try.prog 12 #[.slice a n c, .int .u8 kind] w fun e w' => Out f n kind e ∧ w = w' := by
  have h0 : ((n : Int) == 0) = true := by simp; omega
  go_enter Try.func12, Try.ntmps12
  go_wp2
  go_ret3
  exact ⟨.no (none_short (by omega)), rfl⟩

set_option maxHeartbeats 400000 in
theorem model_kind (g n c : Nat) (f : Nat → Int) (kind : Int) (w : World) (hn : 1 ≤ n) (hB : Blk w g n f) (hk : ¬ f 0 = kind) :
    Calls Try.prog 12 #[.slice (some ⟨g, 0, none⟩) n c, .int .u8 kind] w fun e w' => Out f n kind e ∧ w = w' := by
  have h0 : ((n : Int) == 0) = false := by simp; omega
  have hc0 := hB.cell (j := 0) (by omega)
  have hk' : (f 0 != kind) = true := by simp [hk]
  have HK : Hid (¬ f 0 = kind) := hk
  clear hB hk
  go_enter Try.func12, Try.ntmps12
  go_wp2
  go_ret3
  exact ⟨.no (none_kind HK.out), rfl⟩

set_option maxHeartbeats 1000000 in
theorem model_long (g n c : Nat) (f : Nat → Int) (kind : Int) (w : World) (hn : 1 ≤ n) (hn2 : n ≤ 1048576) (hB : Blk w g n f) (hk : f 0 = kind) :
    Calls Try.prog 12 #[.slice (some ⟨g, 0, none⟩) n c, .int .u8 kind] w fun e w' => Out f n kind e ∧ w = w' := by
  have h0 : ((n : Int) == 0) = false := by simp; omega
  have hc0 := hB.cell (j := 0) (by omega)
  have hk' : (f 0 != kind) = false := by simp [hk]
  have HK : Hid (f 0 = kind) := hk
  have HB : Hid (Blk w g n f) := hB
  clear hB hk
  go_enter Try.func12, Try.ntmps12
  go_wp2
  clear hc0 hk' h0
  go_loop [7] (fun i => ∃ j : Nat, 1 ≤ j ∧ j ≤ n ∧ j ≤ 11 ∧ i = .int .i64 j ∧ digits f j) (fun i => n - (intOf i).toNat)
  case atStart => exact ⟨1, by omega, by omega, by omega, rfl, fun i a b => by omega⟩
  case round =>
    obtain ⟨j, hj1, hjn, hj11, rfl, hd⟩ := hrel
    have HD : Hid (digits f j) := hd
    clear hd
    by_cases h1 : j < n
    · by_cases h2 : j ≤ 10
      · have hcell := HB.out.cell h1
        by_cases h3 : 48 ≤ f j ∧ f j ≤ 57
        · have hD := isD_yes h3
          have H3 : Hid (48 ≤ f j ∧ f j ≤ 57) := h3
          clear h3
          go_wp2_with (go_at_call 14; refine (digit _ _).mono ?_; rintro e w' ⟨rfl, rfl⟩)
          go_round
          case rel => exact ⟨j + 1, by omega, by omega, by omega, by go_num, digits_snoc HD.out H3.out⟩
          case measure => simp [intOf]; omega
        · have hD := isD_no h3
          by_cases hg : f j = 13 ∧ 2 ≤ j ∧ j + 1 < n ∧ f (j + 1) = 10
          · have HG : Hid (Hd.Good f n kind j) := ⟨hg.2.1, h2, hg.2.2.1, HK.out, HD.out, hg.1, hg.2.2.2⟩
            have hj2 := hg.2.1
            have hjn1 := hg.2.2.1
            have hcell1 := HB.out.cell hjn1
            have t1 : (f j != 13) = false := by simp [hg.1]
            have t2 : (f (j + 1) != 10) = false := by simp [hg.2.2.2]
            clear hg h3
            go_wp2_with (first | (go_at_call 14; refine (digit _ _).mono ?_; rintro e w' ⟨rfl, rfl⟩) | (go_at_call 15; refine (placeValue g n c f j _ (by omega) (by omega) (by omega) HB.out HD.out).mono ?_; rintro e w' ⟨rfl, rfl⟩))
            go_ret3
            exact ⟨.yes HG.out rfl rfl, rfl⟩
          · have HG : Hid (¬ ∃ i, Hd.Good f n kind i) := none_at HD.out hj1 h3 hg
            clear h3
            by_cases q1 : 2 ≤ j
            · by_cases q2 : j + 1 < n
              · have hcell1 := HB.out.cell q2
                by_cases q3 : f j = 13
                · have t1 : (f j != 13) = false := by simp [q3]
                  have t2 : (f (j + 1) != 10) = true := by
                    rw [bne_iff_ne]; exact fun e => hg ⟨q3, q1, q2, e⟩
                  clear hg q3
                  go_wp2_with (go_at_call 14; refine (digit _ _).mono ?_; rintro e w' ⟨rfl, rfl⟩)
                  go_ret3
                  exact ⟨.no HG.out, rfl⟩
                · have t1 : (f j != 13) = true := by simp [q3]
                  clear hg q3
                  go_wp2_with (go_at_call 14; refine (digit _ _).mono ?_; rintro e w' ⟨rfl, rfl⟩)
                  go_ret3
                  exact ⟨.no HG.out, rfl⟩
              · clear hg
                go_wp2_with (go_at_call 14; refine (digit _ _).mono ?_; rintro e w' ⟨rfl, rfl⟩)
                go_ret3
                exact ⟨.no HG.out, rfl⟩
            · clear hg
              go_wp2_with (go_at_call 14; refine (digit _ _).mono ?_; rintro e w' ⟨rfl, rfl⟩)
              go_ret3
              exact ⟨.no HG.out, rfl⟩
      · have HG : Hid (¬ ∃ i, Hd.Good f n kind i) := by
          have e : j = 11 := by omega
          have h := HD.out
          rw [e] at h
          exact none_ten h
        go_wp2_with (go_at_call 14; refine (digit _ _).mono ?_; rintro e w' ⟨rfl, rfl⟩)
        go_ret3
        exact ⟨.no HG.out, rfl⟩
    · have HG : Hid (¬ ∃ i, Hd.Good f n kind i) := by
        have e : j = n := by omega
        have h := HD.out
        rw [e] at h
        exact none_end h
      go_wp2_with (go_at_call 14; refine (digit _ _).mono ?_; rintro e w' ⟨rfl, rfl⟩)
      all_goals
        go_ret3
        exact ⟨.no HG.out, rfl⟩

end Go.Proofs.Qxb6603754a.Hw
