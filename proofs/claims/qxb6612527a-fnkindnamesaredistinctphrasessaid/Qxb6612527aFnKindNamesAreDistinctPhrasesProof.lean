/-
  THE SHELL OF A PROOF OF 'Rows.FnKindNamesAreDistinctPhrasesSaid' ('example.com/vestline/vestline/zzlaws_internal_strictjson_b1.FnKindNamesAreDistinctPhrases'), WRITTEN BY PROGRAM (proof-skeleton.mjs) off the guide's own print for that function. Not trusted: Lean checks it.
  The walk and the plain law are filled in by hand; all else is the guide's template at this function's number and types.
-/
import Derived.Test.Qxb6612527aWalks
import Derived.WalkKit
import Derived.ProofKit
import Derived.OpenShut
import Derived.ShutString
namespace Go.Proofs.Qxb6612527a.fnKindNamesAreDistinctPhrases
open Go.ChangeShapes Go.WideShapes Go.ChangeAt Go.RowKit
open Go.ChangeMaps (open_string shut_string)
set_option linter.unusedVariables false      -- a walk need not use every 'w<i>' (that an integer argument fits its kind)

theorem own : ownKnob Try.prog.godebug = none := by kernel_rfl

/-! ### THE PLAIN LAW: six names, no two alike -/
theorem names_apart : ∀ i, i < 6 → ∀ j, j < 6 → ((nameOf i).toList == (nameOf j).toList) = (i == j) := by
  decide +kernel

theorem names_eq (a b : Int) (a0 : 0 ≤ a) (a5 : a ≤ 5) (b0 : 0 ≤ b) (b5 : b ≤ 5) : ((nameOf a.toNat).toList == (nameOf b.toNat).toList) = (a == b) := by
  rw [names_apart a.toNat (by omega) b.toNat (by omega), Bool.eq_iff_iff]
  simp
  omega

theorem str4 (k : Int) (h0 : 0 ≤ k) (hk : k ≤ 5) (w : World) :
    Calls Try.prog 4 #[.int .u8 k] w fun e w' => e = .returned (.string (nameOf k.toNat)) ∧ w' = w := by
  go_enter Try.func4, Try.ntmps4
  go_wp2_with fail
  refine (str6 k h0 hk _).mono ?_
  rintro e w' ⟨rfl, rfl⟩
  go_wp2_with fail
  go_ret
  exact ⟨rfl, rfl⟩

/-! ### STEP 1: THE WALK: the Go text returns true. -/
set_option maxHeartbeats 400000 in
theorem walk (a0 : Int) (a1 : Int) (w0 : (Lit.int .u8 a0).wf = true) (w1 : (Lit.int .u8 a1).wf = true) (w : World) :
    Calls Try.prog 3 #[.int .u8 a0, .int .u8 a1] w fun e w' => e = .returned (.bool true) ∧ Grown w w' := by
  have b0 := bounds_u8 w0
  have b1 := bounds_u8 w1
  clear w0 w1
  by_cases h0 : a0 ≤ 5
  case neg =>
    go_enter Try.func3, Try.ntmps3
    go_wp2
    go_ret
    exact ⟨rfl, Grown.refl _⟩
  by_cases h1 : a1 ≤ 5
  case neg =>
    go_enter Try.func3, Try.ntmps3
    go_wp2
    go_ret
    exact ⟨rfl, Grown.refl _⟩
  have he := names_eq a0 a1 b0.1 h0 b1.1 h1
  have p0 : Hid (Phrase (nameOf a0.toNat)) := phrase_nameOf _
  have p1 : Hid (Phrase (nameOf a1.toNat)) := phrase_nameOf _
  go_enter Try.func3, Try.ntmps3
  go_wp2_with fail
  refine (str4 a0 b0.1 h0 _).mono ?_
  rintro e w' ⟨rfl, hw⟩
  subst w'
  go_wp2_with fail
  refine (str4 a1 b1.1 h1 _).mono ?_
  rintro e w' ⟨rfl, hw⟩
  subst w'
  generalize nameOf a0.toNat = x at he p0
  generalize nameOf a1.toNat = y at he p1
  go_wp2_with fail
  refine (phrase5 x p0.out _).mono ?_
  rintro e w' ⟨rfl, hw⟩
  subst w'
  go_wp2_with fail
  refine (phrase5 y p1.out _).mono ?_
  rintro e w' ⟨rfl, hw⟩
  subst w'
  go_wp2_with fail
  go_ret
  exact ⟨rfl, Grown.refl _⟩

/-! ### THE ROW's STEP: WRITTEN OUT: LEAVE IT -/
set_option maxRecDepth 100000 in
theorem lifted (os : Os) (started : os.Started) (H : Type) (enc : TypeId × Value → H) :
    ReturnsInHanded {} Try.checked os 3 .any (Rows.fnKindNamesAreDistinctPhrasesSpec.pre6 enc Try.prog Try.f3 Rows.fnKindNamesAreDistinctPhrasesRow.domain false) (Rows.fnKindNamesAreDistinctPhrasesSpec.post enc Try.prog Try.f3 false true false false) := by
  refine returnsInHanded_of_change (C := Try.checked) own started (by kernel_rfl) Try.func3
    (ChangeSpec.witness6 (enc := enc) (C := Try.checked) false ⟨#[], #[.int .u8 0, .int .u8 0], []⟩ 8 (by kernel_rfl) (by kernel_rfl) (by kernel_rfl) (by kernel_rfl)) ?_
  intro W base args ds gs before hval0 hW hcnd _
  have hval : ∀ (j : Nat) t v, Try.f3.params[j]? = some t → args[j]? = some v → Value.okWide Try.prog W .any base t v := hval0
  have hW' := hW
  obtain ⟨p, q, hA0, hV, rfl, hfz, hnd⟩ := hW
  have hA : DataW.TrodAll enc Try.prog W 0 (fun _ => true) true Try.f3.params.toList args.toList ds p := hA0
  rw [Try.params3] at hA hval
  obtain ⟨v0, vs0, d0, ds0, p0, q0, hargs, rfl, rfl, h0, r0⟩ := trodAll_cons hA
  obtain ⟨v1, vs1, d1, ds1, p1, q1, rfl, rfl, rfl, h1, r1⟩ := trodAll_cons r0
  obtain ⟨rfl, rfl, rfl⟩ := trodAll_nil r1
  obtain rfl : args = #[v0, v1] := by cases args; simp_all
  obtain ⟨rfl, rfl⟩ := trodVars_none hV
  obtain ⟨a0, rfl, rfl, rfl, w0⟩ := open_int Try.underlying5 (hval 0 5 v0 rfl rfl) h0
  obtain ⟨a1, rfl, rfl, rfl, w1⟩ := open_int Try.underlying5 (hval 1 5 v1 rfl rfl) h1
  clear hA0 hval0
  simp only [List.append_nil] at hW'
  refine (walk a0 a1 w0 w1 W).mono fun e W' ⟨he, hg⟩ => ?_
  subst he
  exact ⟨_, rfl, post_of_same (pa := []) (pv := []) hW' (fun _ _ _ => (trodAll_cons_mk (shut_bool Try.underlying4 _) trodAll_mk0)) (fun sp _ => (trodAll_cons_mk (shut_int Try.underlying5 w0) (trodAll_cons_mk (shut_int Try.underlying5 w1) trodAll_mk0))) (fun _ _ => rfl) rfl
    (hg.frame _) hg.2.1 (ok_one (by kernel_rfl) rfl (okWide_bool_mk Try.underlying4 _))⟩

theorem over : Rows.fnKindNamesAreDistinctPhrasesRow.holds Try.pinned (OpenSpec.ofChange Rows.fnKindNamesAreDistinctPhrasesSpec) :=
  OpenClaim.holds_of_wide 3 Try.f3 rfl rfl rfl rfl rfl rfl rfl ⟨rfl, rfl, rfl, rfl, rfl⟩ rfl rfl rfl rfl rfl (by kernel_rfl) Try.func3 (by kernel_rfl)
    (of_decide_eq_true (by kernel_rfl)) (by unfold Func.isWrapper; first | (rw [if_pos (by decide +kernel)]; kernel_rfl) | (rw [if_neg (by decide +kernel)]; exact ⟨rfl, rfl⟩))
    (fun os started H enc _ => lifted os started H enc)

/-- ████ THE STATEMENT ████ -/
theorem proved : Rows.FnKindNamesAreDistinctPhrasesSaid :=
  over
#print axioms proved
end Go.Proofs.Qxb6612527a.fnKindNamesAreDistinctPhrases
