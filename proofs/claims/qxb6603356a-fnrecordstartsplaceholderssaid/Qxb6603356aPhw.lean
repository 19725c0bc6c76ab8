/-
  phCountB1 and phSeqB1.
-/
import Derived.Test.Qxb6603356aRec
import Derived.Lib.Strings
namespace Go.Proofs.Qxb6603356a.Rs
open Go.RowKit Ph

/-- The byte at place k, as a number; -1 beyond the end. -/
def at_ (s : ByteArray) (k : Nat) : Int := if h : k < s.size then (s[k].toNat : Int) else -1
theorem at_eq {s : ByteArray} {k : Nat} (h : k < s.size) : at_ s k = (s[k].toNat : Int) := by simp [at_, h]

theorem drop_at (s : ByteArray) (k : Nat) (h : k < s.size) : s.data.toList.drop k = s[k] :: s.data.toList.drop (k + 1) := by
  rw [List.drop_eq_getElem_cons (by simpa using h)]; rfl

/-- The run of digits from place k on, found by looking. -/
theorem run_at {s : ByteArray} {k r : Nat} (h1 : k ≤ r) (h2 : r ≤ s.size) (hd : ∀ i, k ≤ i → i < r → 48 ≤ at_ s i ∧ at_ s i ≤ 57) (he : ¬ (48 ≤ at_ s r ∧ at_ s r ≤ 57)) :
    (s.data.toList.drop k).takeWhile dig = (s.data.toList.drop k).take (r - k) := by
  have hl : s.data.toList.length = s.size := by simp
  have hi : ∀ i (h : i < (s.data.toList.drop k).length), ∃ hs : k + i < s.size, (s.data.toList.drop k)[i] = s[k + i] := by
    intro i h
    rw [List.length_drop, hl] at h
    refine ⟨by omega, ?_⟩
    rw [List.getElem_drop]; rfl
  refine tw_take (by rw [List.length_drop, hl]; omega) (fun i h hir => ?_) (fun h => ?_)
  · obtain ⟨hs, e⟩ := hi i h
    have := hd (k + i) (by omega) (by omega)
    rw [at_eq hs] at this
    rw [e]
    unfold dig
    simp
    omega
  · obtain ⟨hs, e⟩ := hi (r - k) h
    rw [e]
    have hr : k + (r - k) = r := by omega
    unfold dig
    rw [decide_eq_false_iff_not]
    intro hc
    refine he ?_
    have hrs : r < s.size := by omega
    rw [at_eq hrs]
    simp only [hr] at hc
    omega

theorem take_one {s : ByteArray} {k : Nat} (h : k < s.size) : (s.data.toList.drop k).take 1 = [s[k]] := by rw [drop_at s k h]; rfl

theorem hit_no {n r k : Nat} {s : ByteArray} (h2 : r ≤ s.size) (h : ¬ r = k + 1) : hit n ((s.data.toList.drop k).take (r - k)) = false := by
  have hl : ((s.data.toList.drop k).take (r - k)).length = min (r - k) (s.size - k) := by simp
  generalize (s.data.toList.drop k).take (r - k) = l at hl
  match l, hl with
  | [], _ => rfl
  | [_], hl => simp at hl; omega
  | _ :: _ :: _, _ => rfl
theorem hit_one {n k : Nat} {s : ByteArray} (h : k < s.size) : hit n ((s.data.toList.drop k).take (k + 1 - k)) = (at_ s k == 48 + (n : Int)) := by
  rw [show k + 1 - k = 1 by omega, take_one h, at_eq h]
  simp only [hit]
  rw [Bool.eq_iff_iff]
  simp
  omega
theorem keep_zero {k : Nat} {s : ByteArray} : keep ((s.data.toList.drop k).take (k - k)) = false := by simp [keep]
theorem keep_one {k : Nat} {s : ByteArray} (h : k < s.size) : keep ((s.data.toList.drop k).take (k + 1 - k)) = (at_ s k == 48) := by
  rw [show k + 1 - k = 1 by omega, take_one h, at_eq h]
  simp only [keep]
  rw [Bool.eq_iff_iff]
  simp
  omega
theorem keep_more {r k : Nat} {s : ByteArray} (h2 : r ≤ s.size) (h : k + 2 ≤ r) : keep ((s.data.toList.drop k).take (r - k)) = true := by
  have hl : ((s.data.toList.drop k).take (r - k)).length = min (r - k) (s.size - k) := by simp
  generalize (s.data.toList.drop k).take (r - k) = l at hl
  match l, hl with
  | [], hl => simp at hl; omega
  | [_], hl => simp at hl; omega
  | _ :: _ :: _, _ => rfl

/-- What phCountB1 holds at place k. -/
def CntAt (s : ByteArray) (n k c : Nat) : Prop := c + cnt n (s.data.toList.drop k) = cnt n s.data.toList

theorem CntAt.skip {s : ByteArray} {n k c : Nat} (h : CntAt s n k c) (hk : k < s.size) (hne : ¬ at_ s k = 36) : CntAt s n (k + 1) c := by
  unfold CntAt at h ⊢
  rw [drop_at s k hk, cnt_cons_no (by rw [at_eq hk] at hne; omega)] at h
  exact h
theorem CntAt.no {s : ByteArray} {n k c : Nat} (h : CntAt s n k c) (hk : k < s.size) (hc : at_ s k = 36) (hh : hit n ((s.data.toList.drop (k + 1)).takeWhile dig) = false) : CntAt s n (k + 1) c := by
  unfold CntAt at h ⊢
  rw [drop_at s k hk, cnt_cons_yes (by rw [at_eq hk] at hc; omega), hh] at h
  simpa using h
theorem CntAt.yes {s : ByteArray} {n k c : Nat} (h : CntAt s n k c) (hk : k < s.size) (hc : at_ s k = 36) (hh : hit n ((s.data.toList.drop (k + 1)).takeWhile dig) = true) : CntAt s n (k + 1) (c + 1) := by
  unfold CntAt at h ⊢
  rw [drop_at s k hk, cnt_cons_yes (by rw [at_eq hk] at hc; omega), hh] at h
  simp at h
  omega
theorem CntAt.le {s : ByteArray} {n k c : Nat} (h : CntAt s n k c) : c ≤ s.size := by
  have := cnt_le n s.data.toList
  unfold CntAt at h
  simp at this
  omega
theorem CntAt.fin {s : ByteArray} {n k c : Nat} (h : CntAt s n k c) (hk : s.size ≤ k) : c = cnt n s.data.toList := by
  unfold CntAt at h
  rw [List.drop_eq_nil_of_le (by simpa using hk)] at h
  simpa [cnt, ph] using h

set_option maxHeartbeats 1000000 in
theorem phCount (s : ByteArray) (n : Nat) (w : World) (hs : s.size ≤ 1048576) :
    Calls Try.prog 13 #[.string s, .int .i64 n] w fun e w' => e = .returned (.int .i64 (cnt n s.data.toList)) ∧ w = w' := by
  go_enter Try.func13, Try.ntmps13
  go_wp2
  go_loop [5, 6] (fun t i => ∃ k c : Nat, k ≤ s.size ∧ i = .int .i64 k ∧ t = .int .i64 c ∧ CntAt s n k c) (fun _ i => s.size - (intOf i).toNat)
  case atStart => exact ⟨0, 0, by omega, rfl, rfl, by simp [CntAt]⟩
  case round =>
    obtain ⟨k, c, hk, rfl, rfl, hC⟩ := hrel
    have HC : Hid (CntAt s n k c) := hC
    have hcs := hC.le
    clear hC
    by_cases hlt : k < s.size
    · by_cases hd : at_ s k = 36
      · have HD : Hid (at_ s k = 36) := hd
        rw [at_eq hlt] at hd
        have hd' : ((s[k].toNat : Int) != 36) = false := by simp [hd]
        clear hd
        go_wp2
        go_loop [7] (fun i => ∃ r : Nat, k + 1 ≤ r ∧ r ≤ s.size ∧ i = .int .i64 r ∧ ∀ j, k + 1 ≤ j → j < r → 48 ≤ at_ s j ∧ at_ s j ≤ 57) (fun i => s.size - (intOf i).toNat)
        case atStart => exact ⟨k + 1, by omega, by omega, by go_num, fun j a b => by omega⟩
        case round =>
          clear hd'
          obtain ⟨r, hr1, hr2, rfl, hall⟩ := hrel
          have HA : Hid (∀ j, k + 1 ≤ j → j < r → 48 ≤ at_ s j ∧ at_ s j ≤ 57) := hall
          clear hall
          by_cases hdg : 48 ≤ at_ s r ∧ at_ s r ≤ 57
          · have hrs : r < s.size := by
              refine Classical.byContradiction fun h => ?_
              simp [at_, h] at hdg
            have HG : Hid (48 ≤ at_ s r ∧ at_ s r ≤ 57) := hdg
            rw [at_eq hrs] at hdg
            obtain ⟨g1, g2⟩ := hdg
            go_wp2
            go_round
            case rel =>
              refine ⟨r + 1, by omega, by omega, by go_num, fun j a b => ?_⟩
              by_cases e : j = r
              · subst e; exact HG.out
              · exact HA.out j a (by omega)
            case measure => simp [intOf]; omega
          · have HR : Hid ((s.data.toList.drop (k + 1)).takeWhile dig = (s.data.toList.drop (k + 1)).take (r - (k + 1))) := run_at hr1 hr2 HA.out hdg
            rcases (show (r < s.size ∧ at_ s r < 48) ∨ (r < s.size ∧ 57 < at_ s r) ∨ s.size ≤ r by omega) with ⟨x1, x2⟩ | ⟨x1, x2⟩ | x1
            · clear hdg
              rw [at_eq x1] at x2
              by_cases e : r = k + 2
              · subst e
                have hk1 : k + 1 < s.size := by omega
                have hgd := HA.out (k + 1) (by omega) (by omega)
                rw [at_eq hk1] at hgd
                obtain ⟨g1, g2⟩ := hgd
                by_cases hh : at_ s (k + 1) = 48 + (n : Int)
                · have HF : Hid (CntAt s n (k + 1) (c + 1)) := by
                    refine HC.out.yes hlt HD.out ?_
                    rw [HR.out, hit_one hk1, beq_iff_eq]; exact hh
                  rw [at_eq hk1] at hh
                  have hb : ((s[k + 1].toNat : Int) - 48 == (n : Int)) = true := by rw [beq_iff_eq]; omega
                  clear hh
                  go_wp2
                  go_round
                  case rel => exact ⟨k + 1, c + 1, by omega, by go_num, by go_num, HF.out⟩
                  case measure => simp [intOf]; omega
                · have HF : Hid (CntAt s n (k + 1) c) := by
                    refine HC.out.no hlt HD.out ?_
                    rw [HR.out, hit_one hk1, beq_eq_false_iff_ne]; exact hh
                  rw [at_eq hk1] at hh
                  have hb : ((s[k + 1].toNat : Int) - 48 == (n : Int)) = false := by rw [beq_eq_false_iff_ne]; omega
                  clear hh
                  go_wp2
                  go_round
                  case rel => exact ⟨k + 1, c, by omega, by go_num, rfl, HF.out⟩
                  case measure => simp [intOf]; omega
              · have HF : Hid (CntAt s n (k + 1) c) := by
                  refine HC.out.no hlt HD.out ?_
                  rw [HR.out]; exact hit_no hr2 (by omega)
                have hb : ((r : Int) == (k : Int) + 2) = false := by rw [beq_eq_false_iff_ne]; omega
                clear e
                go_wp2
                go_round
                case rel => exact ⟨k + 1, c, by omega, by go_num, rfl, HF.out⟩
                case measure => simp [intOf]; omega
            · clear hdg
              rw [at_eq x1] at x2
              by_cases e : r = k + 2
              · subst e
                have hk1 : k + 1 < s.size := by omega
                have hgd := HA.out (k + 1) (by omega) (by omega)
                rw [at_eq hk1] at hgd
                obtain ⟨g1, g2⟩ := hgd
                by_cases hh : at_ s (k + 1) = 48 + (n : Int)
                · have HF : Hid (CntAt s n (k + 1) (c + 1)) := by
                    refine HC.out.yes hlt HD.out ?_
                    rw [HR.out, hit_one hk1, beq_iff_eq]; exact hh
                  rw [at_eq hk1] at hh
                  have hb : ((s[k + 1].toNat : Int) - 48 == (n : Int)) = true := by rw [beq_iff_eq]; omega
                  clear hh
                  go_wp2
                  go_round
                  case rel => exact ⟨k + 1, c + 1, by omega, by go_num, by go_num, HF.out⟩
                  case measure => simp [intOf]; omega
                · have HF : Hid (CntAt s n (k + 1) c) := by
                    refine HC.out.no hlt HD.out ?_
                    rw [HR.out, hit_one hk1, beq_eq_false_iff_ne]; exact hh
                  rw [at_eq hk1] at hh
                  have hb : ((s[k + 1].toNat : Int) - 48 == (n : Int)) = false := by rw [beq_eq_false_iff_ne]; omega
                  clear hh
                  go_wp2
                  go_round
                  case rel => exact ⟨k + 1, c, by omega, by go_num, rfl, HF.out⟩
                  case measure => simp [intOf]; omega
              · have HF : Hid (CntAt s n (k + 1) c) := by
                  refine HC.out.no hlt HD.out ?_
                  rw [HR.out]; exact hit_no hr2 (by omega)
                have hb : ((r : Int) == (k : Int) + 2) = false := by rw [beq_eq_false_iff_ne]; omega
                clear e
                go_wp2
                go_round
                case rel => exact ⟨k + 1, c, by omega, by go_num, rfl, HF.out⟩
                case measure => simp [intOf]; omega
            · clear hdg
              by_cases e : r = k + 2
              · subst e
                have hk1 : k + 1 < s.size := by omega
                have hgd := HA.out (k + 1) (by omega) (by omega)
                rw [at_eq hk1] at hgd
                obtain ⟨g1, g2⟩ := hgd
                by_cases hh : at_ s (k + 1) = 48 + (n : Int)
                · have HF : Hid (CntAt s n (k + 1) (c + 1)) := by
                    refine HC.out.yes hlt HD.out ?_
                    rw [HR.out, hit_one hk1, beq_iff_eq]; exact hh
                  rw [at_eq hk1] at hh
                  have hb : ((s[k + 1].toNat : Int) - 48 == (n : Int)) = true := by rw [beq_iff_eq]; omega
                  clear hh
                  go_wp2
                  go_round
                  case rel => exact ⟨k + 1, c + 1, by omega, by go_num, by go_num, HF.out⟩
                  case measure => simp [intOf]; omega
                · have HF : Hid (CntAt s n (k + 1) c) := by
                    refine HC.out.no hlt HD.out ?_
                    rw [HR.out, hit_one hk1, beq_eq_false_iff_ne]; exact hh
                  rw [at_eq hk1] at hh
                  have hb : ((s[k + 1].toNat : Int) - 48 == (n : Int)) = false := by rw [beq_eq_false_iff_ne]; omega
                  clear hh
                  go_wp2
                  go_round
                  case rel => exact ⟨k + 1, c, by omega, by go_num, rfl, HF.out⟩
                  case measure => simp [intOf]; omega
              · have HF : Hid (CntAt s n (k + 1) c) := by
                  refine HC.out.no hlt HD.out ?_
                  rw [HR.out]; exact hit_no hr2 (by omega)
                have hb : ((r : Int) == (k : Int) + 2) = false := by rw [beq_eq_false_iff_ne]; omega
                clear e
                go_wp2
                go_round
                case rel => exact ⟨k + 1, c, by omega, by go_num, rfl, HF.out⟩
                case measure => simp [intOf]; omega
      · have HF : Hid (CntAt s n (k + 1) c) := HC.out.skip hlt hd
        rw [at_eq hlt] at hd
        have hd' : ((s[k].toNat : Int) != 36) = true := by simp [hd]
        clear hd
        go_wp2
        go_round
        case rel => exact ⟨k + 1, c, by omega, by go_num, rfl, HF.out⟩
        case measure => simp [intOf]; omega
    · have HF : Hid (cnt n s.data.toList = c) := (HC.out.fin (by omega)).symm
      go_wp2
      go_ret
      exact ⟨by rw [HF.out]; rfl, rfl⟩

/-- What phSeqB1 holds at place k. -/
def SeqAt (s : ByteArray) (k : Nat) (o : ByteArray) : Prop := o.data.toList ++ seq (s.data.toList.drop k) = seq s.data.toList

theorem SeqAt.skip {s o : ByteArray} {k : Nat} (h : SeqAt s k o) (hk : k < s.size) (hne : ¬ at_ s k = 36) : SeqAt s (k + 1) o := by
  unfold SeqAt at h ⊢
  rw [drop_at s k hk, seq_cons_no (by rw [at_eq hk] at hne; omega)] at h
  exact h
theorem SeqAt.no {s o : ByteArray} {k : Nat} (h : SeqAt s k o) (hk : k < s.size) (hc : at_ s k = 36) (hh : keep ((s.data.toList.drop (k + 1)).takeWhile dig) = false) : SeqAt s (k + 1) o := by
  unfold SeqAt at h ⊢
  rw [drop_at s k hk, seq_cons_yes (by rw [at_eq hk] at hc; omega), hh] at h
  simpa using h
theorem SeqAt.yes {s o : ByteArray} {k r : Nat} (h : SeqAt s k o) (hk : k < s.size) (hc : at_ s k = 36) (hr : k + 1 ≤ r)
    (hR : (s.data.toList.drop (k + 1)).takeWhile dig = (s.data.toList.drop (k + 1)).take (r - (k + 1))) (hh : keep ((s.data.toList.drop (k + 1)).take (r - (k + 1))) = true) :
    SeqAt s (k + 1) (o ++ s.extract k r ++ ⟨#[59]⟩) := by
  unfold SeqAt at h ⊢
  have hc' : s[k].toNat = 36 := by rw [at_eq hk] at hc; omega
  have hc2 : s[k] = 36 := UInt8.toNat_inj.1 hc'
  rw [drop_at s k hk, seq_cons_yes hc', hR, hh] at h
  rw [toList_append, toList_append, Lib.extract_data, drop_at s k hk, show r - k = (r - (k + 1)) + 1 by omega, List.take_succ_cons, hc2]
  rw [← h]
  simp
theorem SeqAt.le {s o : ByteArray} {k : Nat} (h : SeqAt s k o) (hs : s.size ≤ 200000) : o.size ≤ 100000000000 := by
  have h1 := seq_len s.size s.data.toList (by simp)
  have h2 : o.size ≤ (seq s.data.toList).length := by
    unfold SeqAt at h
    rw [← h, List.length_append]
    simp
  have h3 : s.data.toList.length = s.size := by simp
  rw [h3] at h1
  have h4 : s.size * (s.size + 2) ≤ 200000 * 200002 := Nat.mul_le_mul hs (by omega)
  omega
theorem SeqAt.fin {s o : ByteArray} {k : Nat} (h : SeqAt s k o) (hk : s.size ≤ k) : o = ⟨(seq s.data.toList).toArray⟩ := by
  unfold SeqAt at h
  rw [List.drop_eq_nil_of_le (by simpa using hk)] at h
  have h2 : o.data.toList = seq s.data.toList := by simpa [seq, ph, seqF] using h
  rw [← h2]

set_option maxHeartbeats 1000000 in
theorem phSeq (s : ByteArray) (w : World) (hs : s.size ≤ 200000) :
    Calls Try.prog 14 #[.string s] w fun e w' => e = .returned (.string ⟨(seq s.data.toList).toArray⟩) ∧ w = w' := by
  obtain ⟨res, hres⟩ : ∃ res : ByteArray, res = ⟨(seq s.data.toList).toArray⟩ := ⟨_, rfl⟩
  rw [← hres]
  have HRES : Hid (res = ⟨(seq s.data.toList).toArray⟩) := hres
  clear hres
  go_enter Try.func14, Try.ntmps14
  go_wp2
  go_loop [3, 4] (fun t i => ∃ (k : Nat) (o : ByteArray), k ≤ s.size ∧ i = .int .i64 k ∧ t = .string o ∧ SeqAt s k o) (fun _ i => s.size - (intOf i).toNat)
  case atStart => exact ⟨0, _, by omega, rfl, rfl, by simp [SeqAt]⟩
  case round =>
    obtain ⟨k, o, hk, rfl, rfl, hC⟩ := hrel
    have HC : Hid (SeqAt s k o) := hC
    have hos := hC.le hs
    clear hC
    by_cases hlt : k < s.size
    · by_cases hd : at_ s k = 36
      · have HD : Hid (at_ s k = 36) := hd
        rw [at_eq hlt] at hd
        have hd' : ((s[k].toNat : Int) != 36) = false := by simp [hd]
        clear hd
        go_wp2
        go_loop [5] (fun i => ∃ r : Nat, k + 1 ≤ r ∧ r ≤ s.size ∧ i = .int .i64 r ∧ ∀ j, k + 1 ≤ j → j < r → 48 ≤ at_ s j ∧ at_ s j ≤ 57) (fun i => s.size - (intOf i).toNat)
        case atStart => exact ⟨k + 1, by omega, by omega, by go_num, fun j a b => by omega⟩
        case round =>
          clear hd'
          obtain ⟨r, hr1, hr2, rfl, hall⟩ := hrel
          have HA : Hid (∀ j, k + 1 ≤ j → j < r → 48 ≤ at_ s j ∧ at_ s j ≤ 57) := hall
          clear hall
          by_cases hdg : 48 ≤ at_ s r ∧ at_ s r ≤ 57
          · have hrs : r < s.size := by
              refine Classical.byContradiction fun h => ?_
              simp [at_, h] at hdg
            have HG : Hid (48 ≤ at_ s r ∧ at_ s r ≤ 57) := hdg
            rw [at_eq hrs] at hdg
            obtain ⟨g1, g2⟩ := hdg
            go_wp2
            go_round
            case rel =>
              refine ⟨r + 1, by omega, by omega, by go_num, fun j a b => ?_⟩
              by_cases e : j = r
              · subst e; exact HG.out
              · exact HA.out j a (by omega)
            case measure => simp [intOf]; omega
          · have HR : Hid ((s.data.toList.drop (k + 1)).takeWhile dig = (s.data.toList.drop (k + 1)).take (r - (k + 1))) := run_at hr1 hr2 HA.out hdg
            rcases (show (r < s.size ∧ at_ s r < 48) ∨ (r < s.size ∧ 57 < at_ s r) ∨ s.size ≤ r by omega) with ⟨x1, x2⟩ | ⟨x1, x2⟩ | x1
            · clear hdg
              rw [at_eq x1] at x2
              by_cases e1 : r = k + 1
              · subst e1
                have HF : Hid (SeqAt s (k + 1) o) := by
                  refine HC.out.no hlt HD.out ?_
                  rw [HR.out]; exact keep_zero
                go_wp2
                go_round
                case rel => exact ⟨k + 1, o, by omega, by go_num, rfl, HF.out⟩
                case measure => simp [intOf]; omega
              · by_cases e2 : r = k + 2
                · subst e2
                  have hk1 : k + 1 < s.size := by omega
                  by_cases hh : at_ s (k + 1) = 48
                  · have HF : Hid (SeqAt s (k + 1) (o ++ s.extract k (k + 2) ++ ⟨#[59]⟩)) := by
                      refine HC.out.yes hlt HD.out (by omega) HR.out ?_
                      rw [keep_one hk1, beq_iff_eq]; exact hh
                    rw [at_eq hk1] at hh
                    have hb : ((s[k + 1].toNat : Int) != 48) = false := by simp [hh]
                    clear hh e1
                    go_wp2
                    go_round
                    case rel => exact ⟨k + 1, _, by omega, by go_num, rfl, HF.out⟩
                    case measure => simp [intOf]; omega
                  · have HF : Hid (SeqAt s (k + 1) o) := by
                      refine HC.out.no hlt HD.out ?_
                      rw [HR.out, keep_one hk1, beq_eq_false_iff_ne]; exact hh
                    rw [at_eq hk1] at hh
                    have hb : ((s[k + 1].toNat : Int) != 48) = true := by simp [hh]
                    clear hh e1
                    go_wp2
                    go_round
                    case rel => exact ⟨k + 1, o, by omega, by go_num, rfl, HF.out⟩
                    case measure => simp [intOf]; omega
                · have HF : Hid (SeqAt s (k + 1) (o ++ s.extract k r ++ ⟨#[59]⟩)) := by
                    refine HC.out.yes hlt HD.out (by omega) HR.out ?_
                    exact keep_more hr2 (by omega)
                  have hb : ((r : Int) == (k : Int) + 2) = false := by rw [beq_eq_false_iff_ne]; omega
                  have hr3 : k + 1 < r := by omega
                  clear e1 e2
                  go_wp2
                  go_round
                  case rel => exact ⟨k + 1, _, by omega, by go_num, rfl, HF.out⟩
                  case measure => simp [intOf]; omega
            · clear hdg
              rw [at_eq x1] at x2
              by_cases e1 : r = k + 1
              · subst e1
                have HF : Hid (SeqAt s (k + 1) o) := by
                  refine HC.out.no hlt HD.out ?_
                  rw [HR.out]; exact keep_zero
                go_wp2
                go_round
                case rel => exact ⟨k + 1, o, by omega, by go_num, rfl, HF.out⟩
                case measure => simp [intOf]; omega
              · by_cases e2 : r = k + 2
                · subst e2
                  have hk1 : k + 1 < s.size := by omega
                  by_cases hh : at_ s (k + 1) = 48
                  · have HF : Hid (SeqAt s (k + 1) (o ++ s.extract k (k + 2) ++ ⟨#[59]⟩)) := by
                      refine HC.out.yes hlt HD.out (by omega) HR.out ?_
                      rw [keep_one hk1, beq_iff_eq]; exact hh
                    rw [at_eq hk1] at hh
                    have hb : ((s[k + 1].toNat : Int) != 48) = false := by simp [hh]
                    clear hh e1
                    go_wp2
                    go_round
                    case rel => exact ⟨k + 1, _, by omega, by go_num, rfl, HF.out⟩
                    case measure => simp [intOf]; omega
                  · have HF : Hid (SeqAt s (k + 1) o) := by
                      refine HC.out.no hlt HD.out ?_
                      rw [HR.out, keep_one hk1, beq_eq_false_iff_ne]; exact hh
                    rw [at_eq hk1] at hh
                    have hb : ((s[k + 1].toNat : Int) != 48) = true := by simp [hh]
                    clear hh e1
                    go_wp2
                    go_round
                    case rel => exact ⟨k + 1, o, by omega, by go_num, rfl, HF.out⟩
                    case measure => simp [intOf]; omega
                · have HF : Hid (SeqAt s (k + 1) (o ++ s.extract k r ++ ⟨#[59]⟩)) := by
                    refine HC.out.yes hlt HD.out (by omega) HR.out ?_
                    exact keep_more hr2 (by omega)
                  have hb : ((r : Int) == (k : Int) + 2) = false := by rw [beq_eq_false_iff_ne]; omega
                  have hr3 : k + 1 < r := by omega
                  clear e1 e2
                  go_wp2
                  go_round
                  case rel => exact ⟨k + 1, _, by omega, by go_num, rfl, HF.out⟩
                  case measure => simp [intOf]; omega
            · clear hdg
              by_cases e1 : r = k + 1
              · subst e1
                have HF : Hid (SeqAt s (k + 1) o) := by
                  refine HC.out.no hlt HD.out ?_
                  rw [HR.out]; exact keep_zero
                go_wp2
                go_round
                case rel => exact ⟨k + 1, o, by omega, by go_num, rfl, HF.out⟩
                case measure => simp [intOf]; omega
              · by_cases e2 : r = k + 2
                · subst e2
                  have hk1 : k + 1 < s.size := by omega
                  by_cases hh : at_ s (k + 1) = 48
                  · have HF : Hid (SeqAt s (k + 1) (o ++ s.extract k (k + 2) ++ ⟨#[59]⟩)) := by
                      refine HC.out.yes hlt HD.out (by omega) HR.out ?_
                      rw [keep_one hk1, beq_iff_eq]; exact hh
                    rw [at_eq hk1] at hh
                    have hb : ((s[k + 1].toNat : Int) != 48) = false := by simp [hh]
                    clear hh e1
                    go_wp2
                    go_round
                    case rel => exact ⟨k + 1, _, by omega, by go_num, rfl, HF.out⟩
                    case measure => simp [intOf]; omega
                  · have HF : Hid (SeqAt s (k + 1) o) := by
                      refine HC.out.no hlt HD.out ?_
                      rw [HR.out, keep_one hk1, beq_eq_false_iff_ne]; exact hh
                    rw [at_eq hk1] at hh
                    have hb : ((s[k + 1].toNat : Int) != 48) = true := by simp [hh]
                    clear hh e1
                    go_wp2
                    go_round
                    case rel => exact ⟨k + 1, o, by omega, by go_num, rfl, HF.out⟩
                    case measure => simp [intOf]; omega
                · have HF : Hid (SeqAt s (k + 1) (o ++ s.extract k r ++ ⟨#[59]⟩)) := by
                    refine HC.out.yes hlt HD.out (by omega) HR.out ?_
                    exact keep_more hr2 (by omega)
                  have hb : ((r : Int) == (k : Int) + 2) = false := by rw [beq_eq_false_iff_ne]; omega
                  have hr3 : k + 1 < r := by omega
                  clear e1 e2
                  go_wp2
                  go_round
                  case rel => exact ⟨k + 1, _, by omega, by go_num, rfl, HF.out⟩
                  case measure => simp [intOf]; omega
      · have HF : Hid (SeqAt s (k + 1) o) := HC.out.skip hlt hd
        rw [at_eq hlt] at hd
        have hd' : ((s[k].toNat : Int) != 36) = true := by simp [hd]
        clear hd
        go_wp2
        go_round
        case rel => exact ⟨k + 1, o, by omega, by go_num, rfl, HF.out⟩
        case measure => simp [intOf]; omega
    · have HF : Hid (o = res) := (HC.out.fin (by omega)).trans HRES.out.symm
      go_wp2
      go_ret
      exact ⟨by rw [← HF.out]; rfl, rfl⟩

end Go.Proofs.Qxb6603356a.Rs
