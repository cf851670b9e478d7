/-
  A proof of 'Rows.FnWithGroupsFreelySaid'. The frame is the guide's shell at this function's number and types; its last line is given limb by limb, over 'Below'.
-/
import Derived.Test.Qxb6605160aRows
import Derived.WalkKit
import Derived.ProofKit
import Derived.OpenShut
import Derived.ShutString
import Derived.Below
import Derived.Test.Qxb6605160aWithLaw1
import Derived.Test.Qxb6605160aWithLaw2
namespace Go.Proofs.Qxb6605160a.fnWithGroupsFreely
open Go.ChangeShapes Go.WideShapes Go.ChangeAt Go.RowKit
open Go.ChangeMaps (open_string shut_string)
set_option linter.unusedVariables false      -- a walk need not use every 'w<i>' (that an integer argument fits its kind)

theorem own : ownKnob Try.prog.godebug = none := by kernel_rfl

section
variable (a0 a1 a2 a3 a4 a5 : ByteArray) (w : World)
set_option maxRecDepth 100000 in
set_option maxHeartbeats 400000 in
theorem walk_big (hf : fits6 a0 a1 a2 a3 a4 a5 = false) :
    Calls Try.prog 4 #[.string a0, .string a1, .string a2, .string a3, .string a4, .string a5] w fun e w' => e = .returned (.bool true) ∧ Below w.heap.size w w' := by
  go_enter Try.func4, Try.ntmps4
  go_wp2_with (go_at_call 8; refine (bytes8_any _ _ _ _ _ _ _).mono ?_; rintro e w' ⟨rfl, rfl⟩)
  go_ret
  exact ⟨rfl, Below.refl _ _⟩
set_option maxRecDepth 100000 in
set_option maxHeartbeats 400000 in
theorem walk_s0 (hf : fits6 a0 a1 a2 a3 a4 a5 = true)  (s : ¬ a0.size ≤ 131072) :
    Calls Try.prog 4 #[.string a0, .string a1, .string a2, .string a3, .string a4, .string a5] w fun e w' => e = .returned (.bool true) ∧ Below w.heap.size w w' := by
  go_enter Try.func4, Try.ntmps4
  go_wp2_with (go_at_call 8; refine (bytes8_any _ _ _ _ _ _ _).mono ?_; rintro e w' ⟨rfl, rfl⟩)
  go_ret
  exact ⟨rfl, Below.refl _ _⟩
set_option maxRecDepth 100000 in
set_option maxHeartbeats 400000 in
theorem walk_s1 (hf : fits6 a0 a1 a2 a3 a4 a5 = true) (s0 : a0.size ≤ 131072) (s : ¬ a1.size ≤ 131072) :
    Calls Try.prog 4 #[.string a0, .string a1, .string a2, .string a3, .string a4, .string a5] w fun e w' => e = .returned (.bool true) ∧ Below w.heap.size w w' := by
  go_enter Try.func4, Try.ntmps4
  go_wp2_with (go_at_call 8; refine (bytes8_any _ _ _ _ _ _ _).mono ?_; rintro e w' ⟨rfl, rfl⟩)
  go_ret
  exact ⟨rfl, Below.refl _ _⟩
set_option maxRecDepth 100000 in
set_option maxHeartbeats 400000 in
theorem walk_s2 (hf : fits6 a0 a1 a2 a3 a4 a5 = true) (s0 : a0.size ≤ 131072) (s1 : a1.size ≤ 131072) (s : ¬ a2.size ≤ 131072) :
    Calls Try.prog 4 #[.string a0, .string a1, .string a2, .string a3, .string a4, .string a5] w fun e w' => e = .returned (.bool true) ∧ Below w.heap.size w w' := by
  go_enter Try.func4, Try.ntmps4
  go_wp2_with (go_at_call 8; refine (bytes8_any _ _ _ _ _ _ _).mono ?_; rintro e w' ⟨rfl, rfl⟩)
  go_ret
  exact ⟨rfl, Below.refl _ _⟩
set_option maxRecDepth 100000 in
set_option maxHeartbeats 400000 in
theorem walk_s3 (hf : fits6 a0 a1 a2 a3 a4 a5 = true) (s0 : a0.size ≤ 131072) (s1 : a1.size ≤ 131072) (s2 : a2.size ≤ 131072) (s : ¬ a3.size ≤ 131072) :
    Calls Try.prog 4 #[.string a0, .string a1, .string a2, .string a3, .string a4, .string a5] w fun e w' => e = .returned (.bool true) ∧ Below w.heap.size w w' := by
  go_enter Try.func4, Try.ntmps4
  go_wp2_with (go_at_call 8; refine (bytes8_any _ _ _ _ _ _ _).mono ?_; rintro e w' ⟨rfl, rfl⟩)
  go_ret
  exact ⟨rfl, Below.refl _ _⟩
set_option maxRecDepth 100000 in
set_option maxHeartbeats 400000 in
theorem walk_s4 (hf : fits6 a0 a1 a2 a3 a4 a5 = true) (s0 : a0.size ≤ 131072) (s1 : a1.size ≤ 131072) (s2 : a2.size ≤ 131072) (s3 : a3.size ≤ 131072) (s : ¬ a4.size ≤ 131072) :
    Calls Try.prog 4 #[.string a0, .string a1, .string a2, .string a3, .string a4, .string a5] w fun e w' => e = .returned (.bool true) ∧ Below w.heap.size w w' := by
  go_enter Try.func4, Try.ntmps4
  go_wp2_with (go_at_call 8; refine (bytes8_any _ _ _ _ _ _ _).mono ?_; rintro e w' ⟨rfl, rfl⟩)
  go_ret
  exact ⟨rfl, Below.refl _ _⟩
set_option maxRecDepth 100000 in
set_option maxHeartbeats 400000 in
theorem walk_s5 (hf : fits6 a0 a1 a2 a3 a4 a5 = true) (s0 : a0.size ≤ 131072) (s1 : a1.size ≤ 131072) (s2 : a2.size ≤ 131072) (s3 : a3.size ≤ 131072) (s4 : a4.size ≤ 131072) (s : ¬ a5.size ≤ 131072) :
    Calls Try.prog 4 #[.string a0, .string a1, .string a2, .string a3, .string a4, .string a5] w fun e w' => e = .returned (.bool true) ∧ Below w.heap.size w w' := by
  go_enter Try.func4, Try.ntmps4
  go_wp2_with (go_at_call 8; refine (bytes8_any _ _ _ _ _ _ _).mono ?_; rintro e w' ⟨rfl, rfl⟩)
  go_ret
  exact ⟨rfl, Below.refl _ _⟩
theorem walk :
    Calls Try.prog 4 #[.string a0, .string a1, .string a2, .string a3, .string a4, .string a5] w fun e w' => e = .returned (.bool true) ∧ Below w.heap.size w w' := by
  cases hf : fits6 a0 a1 a2 a3 a4 a5 with
  | false => exact walk_big a0 a1 a2 a3 a4 a5 w hf
  | true =>
    by_cases s0 : a0.size ≤ 131072
    case neg => exact walk_s0 a0 a1 a2 a3 a4 a5 w hf  s0
    by_cases s1 : a1.size ≤ 131072
    case neg => exact walk_s1 a0 a1 a2 a3 a4 a5 w hf s0 s1
    by_cases s2 : a2.size ≤ 131072
    case neg => exact walk_s2 a0 a1 a2 a3 a4 a5 w hf s0 s1 s2
    by_cases s3 : a3.size ≤ 131072
    case neg => exact walk_s3 a0 a1 a2 a3 a4 a5 w hf s0 s1 s2 s3
    by_cases s4 : a4.size ≤ 131072
    case neg => exact walk_s4 a0 a1 a2 a3 a4 a5 w hf s0 s1 s2 s3 s4
    by_cases s5 : a5.size ≤ 131072
    case neg => exact walk_s5 a0 a1 a2 a3 a4 a5 w hf s0 s1 s2 s3 s4 s5
    have c1 : With a0 a1 a2 a3 _ _ _ := fun wx => zzwith_any a0 a1 a2 a3 wx
    have c2 : With (wA a0 a1 a2 a3) (wT a0 a1 a2 a3) a4 a5 _ _ _ := fun wx => zzwith_any _ _ a4 a5 wx
    have c3 : With a2 a3 a4 a5 _ _ _ := fun wx => zzwith_any a2 a3 a4 a5 wx
    have c4 : With a0 a1 (wA a2 a3 a4 a5) (wT a2 a3 a4 a5) _ _ _ := fun wx => zzwith_any a0 a1 _ _ wx
    cases hc : clash3 a0 a2 a4 || clash3 a1 a3 a5 with
    | true =>
      obtain ⟨hl, hr⟩ := plain_clash a0 a1 a2 a3 a4 a5 hc
      exact law_clash a0 a1 a2 a3 a4 a5 _ _ _ _ _ _ _ _ _ _ _ _ w hf s0 s1 s2 s3 s4 s5 c1 c2 c3 c4 hc hl hr
    | false =>
      obtain ⟨h1, h2⟩ : clash3 a0 a2 a4 = false ∧ clash3 a1 a3 a5 = false := by simpa using hc
      obtain ⟨m1, m2, m3, m4⟩ := plain_quiet a0 a1 a2 a3 a4 a5 h1 h2
      obtain ⟨q1, q2, q3, q4⟩ := plain_eqs a0 a1 a2 a3 a4 a5 h1 h2
      exact law_plain a0 a1 a2 a3 a4 a5 _ _ _ _ _ _ _ _ _ _ _ _ w hf s0 s1 s2 s3 s4 s5 c1 c2 c3 c4 h1 h2 m1 m2 m3 m4 q1 q2 q3 q4
end

/-! ### THE ROW's STEP: WRITTEN OUT: LEAVE IT -/
set_option maxRecDepth 100000 in
theorem lifted (os : Os) (started : os.Started) (H : Type) (enc : TypeId × Value → H) :
    ReturnsInHanded {} Try.checked os 4 .any (Rows.fnWithGroupsFreelySpec.pre6 enc Try.prog Try.f4 Rows.fnWithGroupsFreelyRow.domain false) (Rows.fnWithGroupsFreelySpec.post enc Try.prog Try.f4 false true false false) := by
  refine returnsInHanded_of_change (C := Try.checked) own started (by kernel_rfl) Try.func4
    (ChangeSpec.witness6 (enc := enc) (C := Try.checked) false ⟨#[], #[.string ByteArray.empty, .string ByteArray.empty, .string ByteArray.empty, .string ByteArray.empty, .string ByteArray.empty, .string ByteArray.empty], []⟩ 8 (by kernel_rfl) (by kernel_rfl) (by kernel_rfl) (by kernel_rfl)) ?_
  intro W base args ds gs before hval0 hW hcnd _
  have hval : ∀ (j : Nat) t v, Try.f4.params[j]? = some t → args[j]? = some v → Value.okWide Try.prog W .any base t v := hval0
  have hW' := hW
  obtain ⟨p, q, hA0, hV, rfl, hfz, hnd⟩ := hW
  have hA : DataW.TrodAll enc Try.prog W 0 (fun _ => true) true Try.f4.params.toList args.toList ds p := hA0
  rw [Try.params4] at hA hval
  obtain ⟨v0, vs0, d0, ds0, p0, q0, hargs, rfl, rfl, h0, r0⟩ := trodAll_cons hA
  obtain ⟨v1, vs1, d1, ds1, p1, q1, rfl, rfl, rfl, h1, r1⟩ := trodAll_cons r0
  obtain ⟨v2, vs2, d2, ds2, p2, q2, rfl, rfl, rfl, h2, r2⟩ := trodAll_cons r1
  obtain ⟨v3, vs3, d3, ds3, p3, q3, rfl, rfl, rfl, h3, r3⟩ := trodAll_cons r2
  obtain ⟨v4, vs4, d4, ds4, p4, q4, rfl, rfl, rfl, h4, r4⟩ := trodAll_cons r3
  obtain ⟨v5, vs5, d5, ds5, p5, q5, rfl, rfl, rfl, h5, r5⟩ := trodAll_cons r4
  obtain ⟨rfl, rfl, rfl⟩ := trodAll_nil r5
  obtain rfl : args = #[v0, v1, v2, v3, v4, v5] := by cases args; simp_all
  obtain ⟨rfl, rfl⟩ := trodVars_none hV
  obtain ⟨a0, rfl, rfl, rfl, w0⟩ := open_string Try.underlying9 (hval 0 9 v0 rfl rfl) h0
  obtain ⟨a1, rfl, rfl, rfl, w1⟩ := open_string Try.underlying9 (hval 1 9 v1 rfl rfl) h1
  obtain ⟨a2, rfl, rfl, rfl, w2⟩ := open_string Try.underlying9 (hval 2 9 v2 rfl rfl) h2
  obtain ⟨a3, rfl, rfl, rfl, w3⟩ := open_string Try.underlying9 (hval 3 9 v3 rfl rfl) h3
  obtain ⟨a4, rfl, rfl, rfl, w4⟩ := open_string Try.underlying9 (hval 4 9 v4 rfl rfl) h4
  obtain ⟨a5, rfl, rfl, rfl, w5⟩ := open_string Try.underlying9 (hval 5 9 v5 rfl rfl) h5
  clear hA0 hval0
  simp only [List.append_nil] at hW'
  refine (walk a0 a1 a2 a3 a4 a5 W).mono fun e W' ⟨he, bel⟩ => ?_
  subst he
  exact ⟨_, rfl, _, _, _, [], _, [], hW', trodAll_mk1 (shut_bool Try.underlying4 _), (trodAll_cons_mk (shut_string Try.underlying9 w0) (trodAll_cons_mk (shut_string Try.underlying9 w1) (trodAll_cons_mk (shut_string Try.underlying9 w2) (trodAll_cons_mk (shut_string Try.underlying9 w3) (trodAll_cons_mk (shut_string Try.underlying9 w4) (trodAll_cons_mk (shut_string Try.underlying9 w5) trodAll_mk0)))))), rfl, bel.frame _, fun h => by cases h⟩

theorem over : Rows.fnWithGroupsFreelyRow.holds Try.pinned (OpenSpec.ofChange Rows.fnWithGroupsFreelySpec) :=
  OpenClaim.holds_of_wide 4 Try.f4 rfl rfl rfl rfl rfl rfl rfl ⟨rfl, rfl, rfl, rfl, rfl⟩ rfl rfl rfl rfl rfl (by kernel_rfl) Try.func4 (by kernel_rfl)
    (of_decide_eq_true (by kernel_rfl)) (by unfold Func.isWrapper; first | (rw [if_pos (by decide +kernel)]; kernel_rfl) | (rw [if_neg (by decide +kernel)]; exact ⟨rfl, rfl⟩))
    (fun os started H enc _ => lifted os started H enc)

/-- ████ THE STATEMENT ████ -/
theorem proved : Rows.FnWithGroupsFreelySaid :=
  over
end Go.Proofs.Qxb6605160a.fnWithGroupsFreely
