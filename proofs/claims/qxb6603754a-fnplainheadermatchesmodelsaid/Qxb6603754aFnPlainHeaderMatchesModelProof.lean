/-
  'Rows.FnPlainHeaderMatchesModelSaid': the law's walk and the row's step.
-/
import Derived.Test.Qxb6603754aRows
import Derived.Test.Qxb6603754aHdr
import Derived.WalkKit
import Derived.ProofKit
import Derived.OpenShut
import Derived.ShutString
import Derived.ChangeOld
import Derived.Below
namespace Go.Proofs.Qxb6603754a.fnPlainHeaderMatchesModel
open Go.ChangeShapes Go.WideShapes Go.ChangeAt Go.RowKit
open Go.ChangeMaps (open_string shut_string)
set_option linter.unusedVariables false

theorem own : ownKnob Try.prog.godebug = none := by kernel_rfl
theorem laidOut : laidOutB Try.prog = true := by kernel_rfl

/-- WHAT THE WALK IS TOLD OF A SLICE OF INTEGERS THAT CAME IN: it is nil; or it leads to a row of 'cap' cells, the numbers 'zs' (the first 'len' are its elements, the rest its spare room), each fitting its kind. -/
def IsRow (k : IntKind) (w : World) (a : Option Addr) (len cap : Nat) (zs : List Int) : Prop :=
  (a = none ∧ len = 0 ∧ cap = 0 ∧ zs = []) ∨
  ∃ x, a = some x ∧ len ≤ cap ∧ cap ≤ maxLen ∧ zs.length = cap ∧ (∀ i, i < zs.length → w.cell? (x.add i) = some (.int k (zs.getD i 0))) ∧ ∀ n ∈ zs, (Lit.int k n).wf = true

/-- From the shell's words to the walks'. -/
theorem in_of {w : World} {a : Option Addr} {len cap : Nat} {zs : List Int} (h : IsRow .u8 w a len cap zs) : ∃ f, (a = none → len = 0 ∧ cap = 0) ∧ Hw.Row w a len f := by
  rcases h with ⟨rfl, rfl, rfl, rfl⟩ | ⟨x, rfl, h1, h2, h3, h4, h5⟩
  · exact ⟨fun _ => 0, fun _ => ⟨rfl, rfl⟩, .inl rfl⟩
  · refine ⟨fun i => zs.getD i 0, (fun h => by cases h), ?_⟩
    by_cases h0 : len = 0
    · exact .inl h0
    · obtain ⟨b, off, spot⟩ := x
      have hspot : spot = none := by simpa [Addr.add] using World.cell?_spot (h4 0 (by omega))
      subst hspot
      refine .inr ⟨b, off, rfl, fun j hj => by rw [← add_plain]; exact h4 j (by omega), fun j hj => ?_⟩
      have hm : zs.getD j 0 ∈ zs := by
        rw [List.getD_eq_getElem?_getD, List.getElem?_eq_getElem (show j < zs.length by omega)]; simp
      exact bounds_u8 (h5 _ hm)

theorem hdr_any (a : Option Addr) (n g : Nat) (f : Nat → Int) (kind : Int) (w : World) (h : n ≤ 1048576) (ha : n = 0 ∨ (a = some ⟨g, 0, none⟩ ∧ Hw.Blk w g n f)) :
    Calls Try.prog 16 #[.slice a n n, .int .u8 kind] w fun e w' => Hw.Out f n kind e ∧ w = w' := by
  by_cases h4 : n < 4
  · exact Hw.hdr_short a n n f kind w h4
  · rcases ha with ha | ⟨rfl, hB⟩
    · omega
    · by_cases hk : f 0 = kind
      · exact Hw.hdr_long g n f kind w (by omega) h hB hk
      · exact Hw.hdr_kind g n n f kind w (by omega) hB hk

theorem model_any (a : Option Addr) (n g : Nat) (f : Nat → Int) (kind : Int) (w : World) (h : n ≤ 1048576) (ha : n = 0 ∨ (a = some ⟨g, 0, none⟩ ∧ Hw.Blk w g n f)) :
    Calls Try.prog 12 #[.slice a n n, .int .u8 kind] w fun e w' => Hw.Out f n kind e ∧ w = w' := by
  by_cases h0 : n ≤ 0
  · exact Hw.model_empty a n n f kind w h0
  · rcases ha with ha | ⟨rfl, hB⟩
    · omega
    · by_cases hk : f 0 = kind
      · exact Hw.model_long g n n f kind w (by omega) h hB hk
      · exact Hw.model_kind g n n f kind w (by omega) hB hk

set_option maxHeartbeats 400000 in
theorem zzhdr (a : Option Addr) (n g : Nat) (f : Nat → Int) (kind : Int) (w : World) (h : n ≤ 1048576) (ha : n = 0 ∨ (a = some ⟨g, 0, none⟩ ∧ Hw.Blk w g n f)) :
    Calls Try.prog 11 #[.slice a n n, .int .u8 kind] w fun e w' => Hw.Out f n kind e ∧ w = w' := by
  have HA : Hid (n = 0 ∨ (a = some ⟨g, 0, none⟩ ∧ Hw.Blk w g n f)) := ha
  clear ha
  go_enter Try.func11, Try.ntmps11
  go_wp2_with fail
  refine (hdr_any a n g f kind _ h HA.out).mono ?_
  rintro e w' ⟨⟨l, m, ok, rfl, ha⟩, rfl⟩
  have HB : Hid (Hd.Ans f n kind l m ok) := ha
  clear ha
  go_wp2
  go_ret3
  exact ⟨⟨_, _, _, rfl, HB.out⟩, rfl⟩

/-! ### STEP 1: THE WALK: the Go text returns true, AND WRITES NOTHING THAT WAS THERE: 'Below w.heap.size w w'' (Derived/Below.lean: '.refl', '.alloc', '.drew', '.setCell' at a new block, '.trans'). Open each 'IsRow' by 'rcases' AHEAD of 'go_enter'; part every test ahead of the walk. -/
theorem walk (a0 : Option Addr) (len0 cap0 : Nat) (z0 : List Int) (a1 : Int) (w : World) (w0 : IsRow .u8 w a0 len0 cap0 z0) (w1 : (Lit.int .u8 a1).wf = true) :
    Calls Try.prog 5 #[.slice a0 len0 cap0, .int .u8 a1] w fun e w' => e = .returned (.bool true) ∧ Below w.heap.size w w' := by
  obtain ⟨f, hn, hrow⟩ := in_of w0
  by_cases h : len0 ≤ 1048576
  · have HR : Hid (Hw.Row w a0 len0 f) := hrow
    have HN : Hid (a0 = none → len0 = 0 ∧ cap0 = 0) := hn
    clear hn hrow w0 w1
    go_enter Try.func5, Try.ntmps5
    go_wp2_with fail
    refine (Hw.bytesYes a0 len0 cap0 a1 _ h).mono ?_
    rintro e w' ⟨rfl, rfl⟩
    go_wp2_with fail
    refine (Hw.clone a0 len0 cap0 f _ h HN.out HR.out).mono ?_
    rintro e w2 ⟨⟨ah, rfl, hah⟩, hg⟩
    have HA : Hid (len0 = 0 ∨ (ah = some ⟨w.heap.size, 0, none⟩ ∧ Hw.Blk w2 w.heap.size len0 f)) := hah
    have HG : Hid (w.grownBy w2 none) := hg
    clear hah hg
    go_wp2_with fail
    refine (zzhdr ah len0 _ f a1 _ h HA.out).mono ?_
    rintro e w3 ⟨⟨l, m, ok, rfl, ha⟩, rfl⟩
    have HB : Hid (Hd.Ans f len0 a1 l m ok) := ha
    clear ha
    go_wp2_with fail
    refine (model_any ah len0 _ f a1 _ h HA.out).mono ?_
    rintro e w3 ⟨⟨l', m', ok', rfl, ha⟩, rfl⟩
    obtain ⟨rfl, rfl, rfl⟩ := HB.out.one ha
    clear ha HB HA
    go_wp2
    all_goals
      go_ret
      exact ⟨rfl, Hw.gr_below HG.out⟩
  · clear hn hrow w0 w1
    go_enter Try.func5, Try.ntmps5
    go_wp2_with fail
    refine (Hw.bytesNo a0 len0 cap0 a1 _ (by omega)).mono ?_
    rintro e w' ⟨rfl, rfl⟩
    go_wp2
    go_ret
    exact ⟨rfl, Below.refl _ _⟩

/-! ### THE ROW's STEP: WRITTEN OUT: LEAVE IT -/
set_option maxRecDepth 100000 in
theorem lifted (os : Os) (started : os.Started) (H : Type) (enc : TypeId × Value → H) :
    ReturnsInHanded {} Try.checked os 5 .any (Rows.fnPlainHeaderMatchesModelSpec.pre6 enc Try.prog Try.f5 Rows.fnPlainHeaderMatchesModelRow.domain false) (Rows.fnPlainHeaderMatchesModelSpec.post enc Try.prog Try.f5 false true false false) := by
  refine returnsInHanded_of_change (C := Try.checked) own started (by kernel_rfl) Try.func5
    (ChangeSpec.witness6 (enc := enc) (C := Try.checked) false ⟨#[], #[.slice none 0 0, .int .u8 0], []⟩ 8 (by kernel_rfl) (by kernel_rfl) (by kernel_rfl) (by kernel_rfl)) ?_
  intro W base args ds gs before hval0 hW hcnd _
  have hval : ∀ (j : Nat) t v, Try.f5.params[j]? = some t → args[j]? = some v → Value.okWide Try.prog W .any base t v := hval0
  have hW' := hW
  obtain ⟨p, q, hA0, hV, rfl, hfz, hnd⟩ := hW
  have hA : DataW.TrodAll enc Try.prog W 0 (fun _ => true) true Try.f5.params.toList args.toList ds p := hA0
  rw [Try.params5] at hA hval
  obtain ⟨v0, vs0, d0, ds0, p0, q0, hargs, rfl, rfl, h0, r0⟩ := trodAll_cons hA
  obtain ⟨v1, vs1, d1, ds1, p1, q1, rfl, rfl, rfl, h1, r1⟩ := trodAll_cons r0
  obtain ⟨rfl, rfl, rfl⟩ := trodAll_nil r1
  obtain rfl : args = #[v0, v1] := by cases args; simp_all
  obtain ⟨rfl, rfl⟩ := trodVars_none hV
  obtain ⟨a0, len0, cap0, rfl⟩ := okWide_slice Try.underlying22 (hval 0 22 v0 rfl rfl)
  have k0 := h0
  have lt0 : ∀ x ∈ p0, x.block < W.heap.size := by obtain ⟨m, hm⟩ := k0; exact DataW.trod_lt m _ _ _ hm
  obtain ⟨z0, w0⟩ : ∃ zs, IsRow .u8 W a0 len0 cap0 zs := by
    obtain ⟨fuel, hf⟩ := h0
    rcases open_ints Try.underlying22 Try.underlying5 (by kernel_rfl) hf with ⟨hcs, _⟩ | ⟨x, l, c, zs, hcs, _, hl, hm, hz, _, hcell, hwz⟩
    · simp [Value.cells] at hcs
      obtain ⟨rfl, rfl, rfl⟩ := hcs
      exact ⟨[], .inl ⟨rfl, rfl, rfl, rfl⟩⟩
    · simp [Value.cells] at hcs
      obtain ⟨rfl, rfl, rfl⟩ := hcs
      exact ⟨zs, .inr ⟨_, rfl, hl, hm, by simpa using hz, hcell, hwz⟩⟩
  obtain ⟨a1, rfl, rfl, rfl, w1⟩ := open_int Try.underlying5 (hval 1 5 v1 rfl rfl) h1
  clear hA0 hval0
  refine (walk a0 len0 cap0 z0 a1 W w0 w1).mono fun e W' ⟨he, bel⟩ => ?_
  subst he
  exact ⟨_, rfl, _, _, _, [], _, [], hW', trodAll_mk1 (shut_bool Try.underlying4 _), (trodAll_cons_mk (Below.trod laidOut (by kernel_rfl) (of_decide_eq_true (by kernel_rfl)) k0 bel lt0) (trodAll_cons_mk (shut_int Try.underlying5 w1) trodAll_mk0)), rfl, bel.frame _, fun h => by cases h⟩

theorem over : Rows.fnPlainHeaderMatchesModelRow.holds Try.pinned (OpenSpec.ofChange Rows.fnPlainHeaderMatchesModelSpec) :=
  OpenClaim.holds_of_wide 5 Try.f5 rfl rfl rfl rfl rfl rfl rfl ⟨rfl, rfl, rfl, rfl, rfl⟩ rfl rfl rfl rfl rfl (by kernel_rfl) Try.func5 (by kernel_rfl)
    (of_decide_eq_true (by kernel_rfl)) (by unfold Func.isWrapper; first | (rw [if_pos (by decide +kernel)]; kernel_rfl) | (rw [if_neg (by decide +kernel)]; exact ⟨rfl, rfl⟩))
    (fun os started H enc _ => lifted os started H enc)

/-- ████ THE STATEMENT ████ -/
theorem proved : Rows.FnPlainHeaderMatchesModelSaid := over
#print axioms proved
end Go.Proofs.Qxb6603754a.fnPlainHeaderMatchesModel
