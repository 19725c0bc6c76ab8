/-
  'Rows.FnRecordStartsSplicesOnlyInLineSaid': the law's walk and the row's step.
-/
import Derived.Test.Qxb6603356aRows
import Derived.Test.Qxb6603356aRec
import Derived.Test.Qxb6603356aHole
import Derived.Test.Qxb6603356aByt
import Derived.WalkKit
import Derived.ProofKit
import Derived.OpenShut
import Derived.ShutString
namespace Go.Proofs.Qxb6603356a.fnRecordStartsSplicesOnlyInLine
open Go.ChangeShapes Go.WideShapes Go.ChangeAt Go.RowKit
open Go.ChangeMaps (open_string shut_string)
set_option linter.unusedVariables false      -- a walk need not use every 'w<i>' (that an integer argument fits its kind)

theorem own : ownKnob Try.prog.godebug = none := by kernel_rfl

/-! ### STEP 1: THE WALK: the Go text returns true. 'Grown w w'': the world has at most new blocks (Derived/RowKit3.lean). Part the cases AHEAD of 'go_enter' where a test parts the walk; take each callee by a contract of your own. -/
set_option maxHeartbeats 2000000 in
theorem walk (a0 : ByteArray) (a1 : ByteArray) (a2 : ByteArray) (a3 : ByteArray) (a4 : Bool) (a5 : ByteArray) (a6 : ByteArray) (a7 : ByteArray) (a8 : ByteArray) (a9 : Bool) (w0 : a0.size ≤ maxLen) (w1 : a1.size ≤ maxLen) (w2 : a2.size ≤ maxLen) (w3 : a3.size ≤ maxLen) (w5 : a5.size ≤ maxLen) (w6 : a6.size ≤ maxLen) (w7 : a7.size ≤ maxLen) (w8 : a8.size ≤ maxLen) (w : World) :
    Calls Try.prog 9 #[.string a0, .string a1, .string a2, .string a3, .bool a4, .string a5, .string a6, .string a7, .string a8, .bool a9] w fun e w' => e = .returned (.bool true) ∧ Grown w w' := by
  obtain ⟨A, Z, hAZ, hrec⟩ := Rs.rec_any
  have HREC : Hid (∀ (p r q o : ByteArray) (b : Bool) (w : World), q.size ≤ 4096 →
    Calls Try.prog 25 #[.string p, .string r, .string q, .string o, .bool b] w fun e w' => e = .returned (.string (A ++ q ++ Z)) ∧ Grown w w') := hrec
  have HAZ : Hid (Rs.Around A Z) := hAZ
  clear hAZ hrec
  go_enter Try.func9, Try.ntmps9
  go_wp2_with fail
  refine (Rs.bytesS a0 a1 a2 a3 a5 a6 a7 a8 a4 a9 _).mono ?_
  rintro e w' ⟨⟨r, rfl⟩, rfl⟩
  cases r with
  | false =>
    go_wp2_with fail
    go_ret
    exact ⟨rfl, Grown.refl _⟩
  | true =>
  by_cases hA : a0.size ≤ 4096 ∧ a1.size ≤ 4096 ∧ a2.size ≤ 4096 ∧ a3.size ≤ 4096
  · obtain ⟨e0, e1, e2, e3⟩ := hA
    by_cases hB : a5.size ≤ 4096 ∧ a6.size ≤ 4096 ∧ a7.size ≤ 4096 ∧ a8.size ≤ 4096
    · obtain ⟨e5, e6, e7, e8⟩ := hB
      go_wp2_with fail
      refine (HREC.out a0 a1 ⟨#[]⟩ a3 a4 _ (by decide)).mono ?_
      rintro e w2 ⟨rfl, hb2⟩
      obtain ⟨ev, hev⟩ : ∃ ev, ev = A ++ ⟨#[]⟩ ++ Z := ⟨_, rfl⟩
      rw [← hev]
      have HEV : Hid (ev = A ++ Z) := by rw [hev]; exact congrArg (· ++ Z) (ByteArray.append_empty (b := A))
      have HB2 : Hid (Grown w w2) := hb2
      clear hev hb2
      go_wp2_with fail
      refine (HREC.out a0 a1 a2 a3 a4 _ e2).mono ?_
      rintro e w3 ⟨rfl, hb3⟩
      obtain ⟨oa, hoa⟩ : ∃ oa, oa = A ++ a2 ++ Z := ⟨_, rfl⟩
      rw [← hoa]
      have HOA : Hid (oa = A ++ a2 ++ Z) := hoa
      have HB3 : Hid (Grown w w3) := Rs.grown_trans HB2.out hb3
      clear hoa hb3 HB2
      go_wp2_with fail
      refine (HREC.out a5 a6 a7 a8 a9 _ e7).mono ?_
      rintro e w4 ⟨rfl, hb4⟩
      obtain ⟨ob, hob⟩ : ∃ ob, ob = A ++ a7 ++ Z := ⟨_, rfl⟩
      rw [← hob]
      have HOB : Hid (ob = A ++ a7 ++ Z) := hob
      have HB4 : Hid (Grown w w4) := Rs.grown_trans HB3.out hb4
      clear hob hb4 HB3
      have HH1 : Hid (Sp.Hole ev a2 oa A.size) := by rw [HEV.out, HOA.out]; exact Sp.hole A Z a2
      have HH2 : Hid (Sp.Hole ev a7 ob A.size) := by rw [HEV.out, HOB.out]; exact Sp.hole A Z a7
      have hes : ev.size ≤ 200000 := by
        have h := HAZ.out.1
        have e : ev.size = A.size + Z.size := by rw [HEV.out]; simp
        omega
      go_wp2_with fail
      refine (Sp.sameHole ev a2 oa a7 ob A.size _ hes e2 e7 HH1.out HH2.out).mono ?_
      rintro e w5 ⟨rfl, n, rfl⟩
      go_wp2_with fail
      go_ret
      exact ⟨rfl, HB4.out⟩
    · go_wp2_with fail
      all_goals
        go_ret
        exact ⟨rfl, Grown.refl _⟩
  · go_wp2_with fail
    all_goals
      go_ret
      exact ⟨rfl, Grown.refl _⟩

/-! ### THE ROW's STEP: WRITTEN OUT: LEAVE IT -/
set_option maxRecDepth 100000 in
theorem lifted (os : Os) (started : os.Started) (H : Type) (enc : TypeId × Value → H) :
    ReturnsInHanded {} Try.checked os 9 .any (Rows.fnRecordStartsSplicesOnlyInLineSpec.pre6 enc Try.prog Try.f9 Rows.fnRecordStartsSplicesOnlyInLineRow.domain false) (Rows.fnRecordStartsSplicesOnlyInLineSpec.post enc Try.prog Try.f9 false true false false) := by
  refine returnsInHanded_of_change (C := Try.checked) own started (by kernel_rfl) Try.func9
    (ChangeSpec.witness6 (enc := enc) (C := Try.checked) false ⟨#[], #[.string ByteArray.empty, .string ByteArray.empty, .string ByteArray.empty, .string ByteArray.empty, .bool false, .string ByteArray.empty, .string ByteArray.empty, .string ByteArray.empty, .string ByteArray.empty, .bool false], []⟩ 8 (by kernel_rfl) (by kernel_rfl) (by kernel_rfl) (by kernel_rfl)) ?_
  intro W base args ds gs before hval0 hW hcnd _
  have hval : ∀ (j : Nat) t v, Try.f9.params[j]? = some t → args[j]? = some v → Value.okWide Try.prog W .any base t v := hval0
  have hW' := hW
  obtain ⟨p, q, hA0, hV, rfl, hfz, hnd⟩ := hW
  have hA : DataW.TrodAll enc Try.prog W 0 (fun _ => true) true Try.f9.params.toList args.toList ds p := hA0
  rw [Try.params9] at hA hval
  obtain ⟨v0, vs0, d0, ds0, p0, q0, hargs, rfl, rfl, h0, r0⟩ := trodAll_cons hA
  obtain ⟨v1, vs1, d1, ds1, p1, q1, rfl, rfl, rfl, h1, r1⟩ := trodAll_cons r0
  obtain ⟨v2, vs2, d2, ds2, p2, q2, rfl, rfl, rfl, h2, r2⟩ := trodAll_cons r1
  obtain ⟨v3, vs3, d3, ds3, p3, q3, rfl, rfl, rfl, h3, r3⟩ := trodAll_cons r2
  obtain ⟨v4, vs4, d4, ds4, p4, q4, rfl, rfl, rfl, h4, r4⟩ := trodAll_cons r3
  obtain ⟨v5, vs5, d5, ds5, p5, q5, rfl, rfl, rfl, h5, r5⟩ := trodAll_cons r4
  obtain ⟨v6, vs6, d6, ds6, p6, q6, rfl, rfl, rfl, h6, r6⟩ := trodAll_cons r5
  obtain ⟨v7, vs7, d7, ds7, p7, q7, rfl, rfl, rfl, h7, r7⟩ := trodAll_cons r6
  obtain ⟨v8, vs8, d8, ds8, p8, q8, rfl, rfl, rfl, h8, r8⟩ := trodAll_cons r7
  obtain ⟨v9, vs9, d9, ds9, p9, q9, rfl, rfl, rfl, h9, r9⟩ := trodAll_cons r8
  obtain ⟨rfl, rfl, rfl⟩ := trodAll_nil r9
  obtain rfl : args = #[v0, v1, v2, v3, v4, v5, v6, v7, v8, v9] := by cases args; simp_all
  obtain ⟨rfl, rfl⟩ := trodVars_none hV
  obtain ⟨a0, rfl, rfl, rfl, w0⟩ := open_string Try.underlying9 (hval 0 9 v0 rfl rfl) h0
  obtain ⟨a1, rfl, rfl, rfl, w1⟩ := open_string Try.underlying9 (hval 1 9 v1 rfl rfl) h1
  obtain ⟨a2, rfl, rfl, rfl, w2⟩ := open_string Try.underlying9 (hval 2 9 v2 rfl rfl) h2
  obtain ⟨a3, rfl, rfl, rfl, w3⟩ := open_string Try.underlying9 (hval 3 9 v3 rfl rfl) h3
  obtain ⟨a4, rfl, rfl, rfl⟩ := open_bool Try.underlying4 (hval 4 4 v4 rfl rfl) h4
  obtain ⟨a5, rfl, rfl, rfl, w5⟩ := open_string Try.underlying9 (hval 5 9 v5 rfl rfl) h5
  obtain ⟨a6, rfl, rfl, rfl, w6⟩ := open_string Try.underlying9 (hval 6 9 v6 rfl rfl) h6
  obtain ⟨a7, rfl, rfl, rfl, w7⟩ := open_string Try.underlying9 (hval 7 9 v7 rfl rfl) h7
  obtain ⟨a8, rfl, rfl, rfl, w8⟩ := open_string Try.underlying9 (hval 8 9 v8 rfl rfl) h8
  obtain ⟨a9, rfl, rfl, rfl⟩ := open_bool Try.underlying4 (hval 9 4 v9 rfl rfl) h9
  clear hA0 hval0
  simp only [List.append_nil] at hW'
  refine (walk a0 a1 a2 a3 a4 a5 a6 a7 a8 a9 w0 w1 w2 w3 w5 w6 w7 w8 W).mono fun e W' ⟨he, hg⟩ => ?_
  subst he
  exact ⟨_, rfl, post_of_same (pa := []) (pv := []) hW' (fun _ _ _ => (trodAll_cons_mk (shut_bool Try.underlying4 _) trodAll_mk0)) (fun sp _ => (trodAll_cons_mk (shut_string Try.underlying9 w0) (trodAll_cons_mk (shut_string Try.underlying9 w1) (trodAll_cons_mk (shut_string Try.underlying9 w2) (trodAll_cons_mk (shut_string Try.underlying9 w3) (trodAll_cons_mk (shut_bool Try.underlying4 _) (trodAll_cons_mk (shut_string Try.underlying9 w5) (trodAll_cons_mk (shut_string Try.underlying9 w6) (trodAll_cons_mk (shut_string Try.underlying9 w7) (trodAll_cons_mk (shut_string Try.underlying9 w8) (trodAll_cons_mk (shut_bool Try.underlying4 _) trodAll_mk0))))))))))) (fun _ _ => rfl) rfl
    (hg.frame _) hg.2.1 (ok_one (by kernel_rfl) rfl (okWide_bool_mk Try.underlying4 _))⟩

theorem over : Rows.fnRecordStartsSplicesOnlyInLineRow.holds Try.pinned (OpenSpec.ofChange Rows.fnRecordStartsSplicesOnlyInLineSpec) :=
  OpenClaim.holds_of_wide 9 Try.f9 rfl rfl rfl rfl rfl rfl rfl ⟨rfl, rfl, rfl, rfl, rfl⟩ rfl rfl rfl rfl rfl (by kernel_rfl) Try.func9 (by kernel_rfl)
    (of_decide_eq_true (by kernel_rfl)) (by unfold Func.isWrapper; first | (rw [if_pos (by decide +kernel)]; kernel_rfl) | (rw [if_neg (by decide +kernel)]; exact ⟨rfl, rfl⟩))
    (fun os started H enc _ => lifted os started H enc)

/-- ████ THE STATEMENT ████ -/
theorem proved : Rows.FnRecordStartsSplicesOnlyInLineSaid :=
  over
#print axioms proved
end Go.Proofs.Qxb6603356a.fnRecordStartsSplicesOnlyInLine
