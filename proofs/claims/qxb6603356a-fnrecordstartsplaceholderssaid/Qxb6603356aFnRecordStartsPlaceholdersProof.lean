/-
  'Rows.FnRecordStartsPlaceholdersSaid': the law's walk and the row's step.
-/
import Derived.Test.Qxb6603356aRows
import Derived.Test.Qxb6603356aPhw
import Derived.Test.Qxb6603356aByt
import Derived.WalkKit
import Derived.ProofKit
import Derived.OpenShut
import Derived.ShutString
namespace Go.Proofs.Qxb6603356a.fnRecordStartsPlaceholders
open Go.ChangeShapes Go.WideShapes Go.ChangeAt Go.RowKit
open Go.ChangeMaps (open_string shut_string)
set_option linter.unusedVariables false      -- a walk need not use every 'w<i>' (that an integer argument fits its kind)

theorem own : ownKnob Try.prog.godebug = none := by kernel_rfl

/-! ### STEP 1: THE WALK: the Go text returns true. 'Grown w w'': the world has at most new blocks (Derived/RowKit3.lean). Part the cases AHEAD of 'go_enter' where a test parts the walk; take each callee by a contract of your own. -/
theorem walk (a0 : ByteArray) (a1 : ByteArray) (a2 : ByteArray) (a3 : ByteArray) (a4 : Bool) (w0 : a0.size ≤ maxLen) (w1 : a1.size ≤ maxLen) (w2 : a2.size ≤ maxLen) (w3 : a3.size ≤ maxLen) (w : World) :
    Calls Try.prog 10 #[.string a0, .string a1, .string a2, .string a3, .bool a4] w fun e w' => e = .returned (.bool true) ∧ Grown w w' := by
  obtain ⟨A, Z, hAZ, hrec⟩ := Rs.rec_any
  have HREC : Hid (∀ (p r q o : ByteArray) (b : Bool) (w : World), q.size ≤ 4096 →
    Calls Try.prog 25 #[.string p, .string r, .string q, .string o, .bool b] w fun e w' => e = .returned (.string (A ++ q ++ Z)) ∧ Grown w w') := hrec
  have HAZ : Hid (Rs.Around A Z) := hAZ
  clear hAZ hrec
  go_enter Try.func10, Try.ntmps10
  go_wp2_with fail
  refine (Rs.bytesP a0 a1 a2 a3 a4 _).mono ?_
  rintro e w' ⟨⟨r, rfl⟩, rfl⟩
  cases r with
  | false =>
    go_wp2_with fail
    go_ret
    exact ⟨rfl, Grown.refl _⟩
  | true =>
  by_cases hA : a0.size ≤ 4096 ∧ a1.size ≤ 4096 ∧ a2.size ≤ 4096 ∧ a3.size ≤ 4096
  · obtain ⟨e0, e1, e2, e3⟩ := hA
    go_wp2_with fail
    refine (HREC.out a0 a1 a2 a3 a4 _ e2).mono ?_
    rintro e w2 ⟨rfl, hb⟩
    obtain ⟨out, hout⟩ : ∃ out, out = A ++ a2 ++ Z := ⟨_, rfl⟩
    rw [← hout]
    have HL : Hid (out.data.toList = A.data.toList ++ a2.data.toList ++ Z.data.toList) := by rw [hout, Rs.toList_append, Rs.toList_append]; rfl
    have hos : out.size ≤ 200000 := by
      have h := HAZ.out.1
      have e : out.size = A.size + a2.size + Z.size := by rw [hout]; simp
      omega
    have HB : Hid (Grown w w2) := hb
    clear hout hb
    go_wp2_with fail
    go_loop [12] (fun i => ∃ n : Nat, 1 ≤ n ∧ n ≤ 10 ∧ i = .int .i64 n) (fun i => 10 - (intOf i).toNat)
    case atStart => exact ⟨1, by omega, by omega, rfl⟩
    case round =>
      obtain ⟨n, n1, n10, rfl⟩ := hrel
      by_cases h9 : n ≤ 9
      · have hcn := Ph.cnt_three (q := a2.data.toList) HAZ.out.2 n
        rw [← HL.out] at hcn
        have hfn := HAZ.out.2.2.2.2.2 n (by omega)
        by_cases h3 : n ≤ 3
        · have hpos : 0 < Ph.cnt n out.data.toList := by have := hfn.1 n1 h3; omega
          obtain ⟨c, hc⟩ : ∃ c, c = Ph.cnt n out.data.toList := ⟨_, rfl⟩
          rw [← hc] at hpos
          have HC : Hid (Ph.cnt n out.data.toList = c) := hc.symm
          clear hcn hfn hc
          go_wp2_with fail
          refine (Rs.phCount out n _ (by omega)).mono ?_
          rintro e w' ⟨rfl, rfl⟩
          rw [HC.out]
          go_wp2_with fail
          go_round
          case rel => exact ⟨n + 1, by omega, by omega, by go_num⟩
          case measure => simp [intOf]; omega
        · have heq : Ph.cnt n out.data.toList = Ph.cnt n a2.data.toList := by have := hfn.2 (by omega); omega
          obtain ⟨c, hc⟩ : ∃ c, c = Ph.cnt n a2.data.toList := ⟨_, rfl⟩
          rw [← hc] at heq
          have HC : Hid (Ph.cnt n out.data.toList = c) := heq
          have HC2 : Hid (Ph.cnt n a2.data.toList = c) := hc.symm
          clear hcn hfn hc heq
          by_cases hc0 : 0 < c
          · go_wp2_with fail
            refine (Rs.phCount a2 n _ (by omega)).mono ?_
            rintro e w' ⟨rfl, rfl⟩
            rw [HC2.out]
            go_wp2_with fail
            refine (Rs.phCount out n _ (by omega)).mono ?_
            rintro e w' ⟨rfl, rfl⟩
            rw [HC.out]
            go_wp2_with fail
            go_round
            case rel => exact ⟨n + 1, by omega, by omega, by go_num⟩
            case measure => simp [intOf]; omega
          · go_wp2_with fail
            refine (Rs.phCount a2 n _ (by omega)).mono ?_
            rintro e w' ⟨rfl, rfl⟩
            rw [HC2.out]
            go_wp2_with fail
            refine (Rs.phCount out n _ (by omega)).mono ?_
            rintro e w' ⟨rfl, rfl⟩
            rw [HC.out]
            go_wp2_with fail
            go_round
            case rel => exact ⟨n + 1, by omega, by omega, by go_num⟩
            case measure => simp [intOf]; omega
      · have hseq := Ph.seq_three (q := a2.data.toList) HAZ.out.2
        rw [← HL.out] at hseq
        have HSQ : Hid (Ph.seq out.data.toList = Ph.seq a2.data.toList) := hseq
        clear hseq
        go_wp2_with fail
        refine (Rs.phSeq out _ hos).mono ?_
        rintro e w' ⟨rfl, rfl⟩
        rw [HSQ.out]
        obtain ⟨x, hx⟩ : ∃ x : ByteArray, x = ⟨(Ph.seq a2.data.toList).toArray⟩ := ⟨_, rfl⟩
        rw [← hx]
        go_wp2_with fail
        refine (Rs.phSeq a2 _ (by omega)).mono ?_
        rintro e w' ⟨rfl, rfl⟩
        rw [← hx]
        clear hx
        go_wp2_with fail
        go_ret
        exact ⟨by simp, HB.out⟩
  · go_wp2_with fail
    all_goals
      go_ret
      exact ⟨rfl, Grown.refl _⟩

/-! ### THE ROW's STEP: WRITTEN OUT: LEAVE IT -/
set_option maxRecDepth 100000 in
theorem lifted (os : Os) (started : os.Started) (H : Type) (enc : TypeId × Value → H) :
    ReturnsInHanded {} Try.checked os 10 .any (Rows.fnRecordStartsPlaceholdersSpec.pre6 enc Try.prog Try.f10 Rows.fnRecordStartsPlaceholdersRow.domain false) (Rows.fnRecordStartsPlaceholdersSpec.post enc Try.prog Try.f10 false true false false) := by
  refine returnsInHanded_of_change (C := Try.checked) own started (by kernel_rfl) Try.func10
    (ChangeSpec.witness6 (enc := enc) (C := Try.checked) false ⟨#[], #[.string ByteArray.empty, .string ByteArray.empty, .string ByteArray.empty, .string ByteArray.empty, .bool false], []⟩ 8 (by kernel_rfl) (by kernel_rfl) (by kernel_rfl) (by kernel_rfl)) ?_
  intro W base args ds gs before hval0 hW hcnd _
  have hval : ∀ (j : Nat) t v, Try.f10.params[j]? = some t → args[j]? = some v → Value.okWide Try.prog W .any base t v := hval0
  have hW' := hW
  obtain ⟨p, q, hA0, hV, rfl, hfz, hnd⟩ := hW
  have hA : DataW.TrodAll enc Try.prog W 0 (fun _ => true) true Try.f10.params.toList args.toList ds p := hA0
  rw [Try.params10] at hA hval
  obtain ⟨v0, vs0, d0, ds0, p0, q0, hargs, rfl, rfl, h0, r0⟩ := trodAll_cons hA
  obtain ⟨v1, vs1, d1, ds1, p1, q1, rfl, rfl, rfl, h1, r1⟩ := trodAll_cons r0
  obtain ⟨v2, vs2, d2, ds2, p2, q2, rfl, rfl, rfl, h2, r2⟩ := trodAll_cons r1
  obtain ⟨v3, vs3, d3, ds3, p3, q3, rfl, rfl, rfl, h3, r3⟩ := trodAll_cons r2
  obtain ⟨v4, vs4, d4, ds4, p4, q4, rfl, rfl, rfl, h4, r4⟩ := trodAll_cons r3
  obtain ⟨rfl, rfl, rfl⟩ := trodAll_nil r4
  obtain rfl : args = #[v0, v1, v2, v3, v4] := by cases args; simp_all
  obtain ⟨rfl, rfl⟩ := trodVars_none hV
  obtain ⟨a0, rfl, rfl, rfl, w0⟩ := open_string Try.underlying9 (hval 0 9 v0 rfl rfl) h0
  obtain ⟨a1, rfl, rfl, rfl, w1⟩ := open_string Try.underlying9 (hval 1 9 v1 rfl rfl) h1
  obtain ⟨a2, rfl, rfl, rfl, w2⟩ := open_string Try.underlying9 (hval 2 9 v2 rfl rfl) h2
  obtain ⟨a3, rfl, rfl, rfl, w3⟩ := open_string Try.underlying9 (hval 3 9 v3 rfl rfl) h3
  obtain ⟨a4, rfl, rfl, rfl⟩ := open_bool Try.underlying4 (hval 4 4 v4 rfl rfl) h4
  clear hA0 hval0
  simp only [List.append_nil] at hW'
  refine (walk a0 a1 a2 a3 a4 w0 w1 w2 w3 W).mono fun e W' ⟨he, hg⟩ => ?_
  subst he
  exact ⟨_, rfl, post_of_same (pa := []) (pv := []) hW' (fun _ _ _ => (trodAll_cons_mk (shut_bool Try.underlying4 _) trodAll_mk0)) (fun sp _ => (trodAll_cons_mk (shut_string Try.underlying9 w0) (trodAll_cons_mk (shut_string Try.underlying9 w1) (trodAll_cons_mk (shut_string Try.underlying9 w2) (trodAll_cons_mk (shut_string Try.underlying9 w3) (trodAll_cons_mk (shut_bool Try.underlying4 _) trodAll_mk0)))))) (fun _ _ => rfl) rfl
    (hg.frame _) hg.2.1 (ok_one (by kernel_rfl) rfl (okWide_bool_mk Try.underlying4 _))⟩

theorem over : Rows.fnRecordStartsPlaceholdersRow.holds Try.pinned (OpenSpec.ofChange Rows.fnRecordStartsPlaceholdersSpec) :=
  OpenClaim.holds_of_wide 10 Try.f10 rfl rfl rfl rfl rfl rfl rfl ⟨rfl, rfl, rfl, rfl, rfl⟩ rfl rfl rfl rfl rfl (by kernel_rfl) Try.func10 (by kernel_rfl)
    (of_decide_eq_true (by kernel_rfl)) (by unfold Func.isWrapper; first | (rw [if_pos (by decide +kernel)]; kernel_rfl) | (rw [if_neg (by decide +kernel)]; exact ⟨rfl, rfl⟩))
    (fun os started H enc _ => lifted os started H enc)

/-- ████ THE STATEMENT ████ -/
theorem proved : Rows.FnRecordStartsPlaceholdersSaid :=
  over
#print axioms proved
end Go.Proofs.Qxb6603356a.fnRecordStartsPlaceholders
