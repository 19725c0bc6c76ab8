/-
  sameHoleB1.
-/
import Derived.Test.Qxb6603356aLcp
import Derived.Lib.Strings
namespace Go.Proofs.Qxb6603356a.Sp
open Go.RowKit

/-- o is e with a put in at place P. -/
structure Hole (e a o : ByteArray) (P : Nat) : Prop where
  size : o.size = e.size + a.size
  at' : P ≤ e.size
  pre : ∀ i, i < P → at_ e i = at_ o i
  suf : ∀ i, i < e.size - P → at_ e (e.size - 1 - i) = at_ o (o.size - 1 - i)
  mid : o.extract P (P + a.size) = a

set_option maxHeartbeats 1000000 in
theorem sameHole (e a oa b ob : ByteArray) (P : Nat) (w : World) (he : e.size ≤ 200000) (ha : a.size ≤ 4096) (hb : b.size ≤ 4096) (h1 : Hole e a oa P) (h2 : Hole e b ob P) :
    Calls Try.prog 16 #[.string e, .string a, .string oa, .string b, .string ob] w fun r w' => r = .returned (.bool true) ∧ ∃ n, w' = w.drewN n := by
  have z1 : oa.size ≤ 300000 := by have := h1.size; omega
  have z2 : ob.size ≤ 300000 := by have := h2.size; omega
  have t1 : ((oa.size : Int) != (e.size : Int) + (a.size : Int)) = false := by have := h1.size; simp; omega
  have t2 : ((ob.size : Int) != (e.size : Int) + (b.size : Int)) = false := by have := h2.size; simp; omega
  have y1 : e.size + a.size ≤ oa.size := by have := h1.size; omega
  have y2 : e.size + b.size ≤ ob.size := by have := h2.size; omega
  have hP : P ≤ e.size := h1.at'
  have H1 : Hid (Hole e a oa P) := h1
  have H2 : Hid (Hole e b ob P) := h2
  clear h1 h2
  go_enter Try.func16, Try.ntmps16
  go_wp2_with fail
  refine (lcp e oa _ (by omega)).mono ?_
  rintro r w1 ⟨⟨pa, rfl, hpa⟩, n1, rfl⟩
  have pa1 : pa ≤ e.size := hpa.1
  have pa2 : P ≤ pa := hpa.2.2 P hP (by omega) H1.out.pre
  clear hpa
  go_wp2_with fail
  refine (lcp e ob _ (by omega)).mono ?_
  rintro r w1 ⟨⟨pb, rfl, hpb⟩, n2, rfl⟩
  have pb1 : pb ≤ e.size := hpb.1
  have pb2 : P ≤ pb := hpb.2.2 P hP (by omega) H2.out.pre
  clear hpb
  go_wp2_with fail
  refine (lcs e oa _ (by omega) (by omega)).mono ?_
  rintro r w1 ⟨⟨sa, rfl, hsa⟩, n3, rfl⟩
  have sa1 : e.size - P ≤ sa := hsa.2.2 (e.size - P) (by omega) (by omega) H1.out.suf
  have sa2 : sa ≤ e.size := hsa.1
  clear hsa
  go_wp2_with fail
  refine (lcs e ob _ (by omega) (by omega)).mono ?_
  rintro r w1 ⟨⟨sb, rfl, hsb⟩, n4, rfl⟩
  have sb1 : e.size - P ≤ sb := hsb.2.2 (e.size - P) (by omega) (by omega) H2.out.suf
  have sb2 : sb ≤ e.size := hsb.1
  clear hsb
  go_wp2_with fail
  go_loop [15] (fun t => ∃ i : Nat, i ≤ P ∧ t = .int .i64 i) (fun t => P - (intOf t).toNat)
  case atStart => exact ⟨0, by omega, rfl⟩
  case round =>
    obtain ⟨i, hi, rfl⟩ := hrel
    by_cases hlt : i < P
    · go_wp2
      all_goals first | (go_ret; exact ⟨rfl, _, rfl⟩) | exact ⟨⟨i + 1, by omega, by go_num⟩, by simp [intOf]; omega⟩
    · have ei : i = P := by omega
      subst ei
      have m1 := H1.out.mid
      have m2 := H2.out.mid
      go_wp2
      go_ret
      exact ⟨rfl, _, rfl⟩

/-- A text with a put in between. -/
theorem hole (A Z a : ByteArray) : Hole (A ++ Z) a (A ++ a ++ Z) A.size := by
  have g : ∀ (s : ByteArray) (k : Nat), at_ s k = if h : k < s.data.toList.length then ((s.data.toList[k]).toNat : Int) else -1 := by
    intro s k
    unfold at_
    by_cases h : k < s.size
    · rw [dif_pos h, dif_pos (by simpa using h)]; rfl
    · rw [dif_neg h, dif_neg (by simpa using h)]
  have g2 : ∀ (s : ByteArray) (k : Nat), at_ s k = (s.data.toList[k]?.map (fun c => (c.toNat : Int))).getD (-1) := by
    intro s k
    rw [g]
    by_cases h : k < s.data.toList.length
    · rw [dif_pos h, List.getElem?_eq_getElem h]; rfl
    · rw [dif_neg h, List.getElem?_eq_none (by omega)]; rfl
  have e1 : (A ++ Z).data.toList = A.data.toList ++ Z.data.toList := by simp
  have e2 : (A ++ a ++ Z).data.toList = A.data.toList ++ a.data.toList ++ Z.data.toList := by simp
  have s1 : (A ++ Z).size = A.size + Z.size := by simp
  have s2 : (A ++ a ++ Z).size = A.size + a.size + Z.size := by simp
  have lA : A.data.toList.length = A.size := by simp
  have lZ : Z.data.toList.length = Z.size := by simp
  have la : a.data.toList.length = a.size := by simp
  refine ⟨by omega, by omega, fun i hi => ?_, fun i hi => ?_, ?_⟩
  · rw [g2, g2, e1, e2, List.append_assoc, List.getElem?_append_left (by omega), List.getElem?_append_left (by omega)]
  · rw [g2, g2, e1, e2, s1, s2, List.getElem?_append_right (by omega), List.getElem?_append_right (by rw [List.length_append]; omega), List.length_append, lA, la]
    have : A.size + Z.size - 1 - i - A.size = A.size + a.size + Z.size - 1 - i - (A.size + a.size) := by omega
    rw [this]
  · refine ByteArray.ext ?_
    refine Array.ext' ?_
    rw [Lib.extract_data, e2, List.append_assoc, List.drop_append_of_le_length (by omega), List.drop_of_length_le (by omega), List.nil_append, show A.size + a.size - A.size = a.data.toList.length by omega, List.take_left]

end Go.Proofs.Qxb6603356a.Sp
