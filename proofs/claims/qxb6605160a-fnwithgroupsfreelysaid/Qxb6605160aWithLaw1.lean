/-
  FnWithGroupsFreely (4), walked out of the contracts, where two lines clash.
-/
import Derived.Test.Qxb6605160aWithPlain
import Derived.Deep.DeepCutAuto
namespace Go.Proofs.Qxb6605160a
open Go.RowKit
section
variable (a ta b tb c tc x1 x2 x3 y1 y2 y3 z1 z2 z3 u1 u2 u3 : ByteArray) (w : World)
set_option maxRecDepth 100000 in
set_option maxHeartbeats 1000000 in
theorem law_clash (hf : fits6 a ta b tb c tc = true) (s1 : a.size ≤ 131072) (s2 : ta.size ≤ 131072) (s3 : b.size ≤ 131072) (s4 : tb.size ≤ 131072) (s5 : c.size ≤ 131072) (s6 : tc.size ≤ 131072)
    (c1 : With a ta b tb x1 x2 x3) (c2 : With x1 x2 c tc y1 y2 y3) (c3 : With b tb c tc z1 z2 z3) (c4 : With a ta z1 z2 u1 u2 u3)
    (hc : Hid ((clash3 a b c || clash3 ta tb tc) = true)) (hl : Hid (anyGiven x3 y3 = true)) (hr : Hid (anyGiven z3 u3 = true)) :
    Calls Try.prog 4 #[.string a, .string ta, .string b, .string tb, .string c, .string tc] w fun e w' => e = .returned (.bool true) ∧ Below w.heap.size w w' := by
  go_enter Try.func4, Try.ntmps4
  go_wp2_with (go_at_call 8; refine (bytes8_any _ _ _ _ _ _ _).mono ?_; rintro e w' ⟨rfl, rfl⟩)
  refine (c1 _).mono ?_
  rintro e w1 ⟨rfl, hb1⟩
  go_wp2_with fail
  refine (c2 _).mono ?_
  rintro e w2 ⟨rfl, hb2⟩
  go_wp2_with fail
  refine (c3 _).mono ?_
  rintro e w3 ⟨rfl, hb3⟩
  go_wp2_with fail
  refine (c4 _).mono ?_
  rintro e w4 ⟨rfl, hb4⟩
  have HB : Below w'.heap.size w' w4 := hb1.trans ((hb2.mono hb1.size).trans ((hb3.mono (Nat.le_trans hb1.size hb2.size)).trans (hb4.mono (Nat.le_trans hb1.size (Nat.le_trans hb2.size hb3.size)))))
  go_upto_region 19 with fail
  go_cut [25] (fun s w => s = .bool (clash3 a b c) ∧ w = w4)
  case first =>
    go_wp2_with fail
    all_goals (go_meet; case rel => refine ⟨congrArg Value.bool ?_, rfl⟩; simp [clash3, clash, *])
  case rest => 
    obtain ⟨rfl, rfl⟩ := hcut
    go_upto_region 20 with fail
    go_cut [26] (fun s w => s = .bool (clash3 ta tb tc) ∧ w = wc)
    case first =>
      go_wp2_with fail
      all_goals (go_meet; case rel => refine ⟨congrArg Value.bool ?_, rfl⟩; simp [clash3, clash, *])
    case rest => 
      obtain ⟨rfl, rfl⟩ := hcut
      go_upto_region 21 with fail
      go_cut [27] (fun s w => s = .bool true ∧ w = wc)
      case first =>
        go_wp2_with fail
        all_goals (go_meet; case rel => refine ⟨congrArg Value.bool ?_, rfl⟩; have hl' := hl.out; clear hl; simp_all [anyGiven])
      case rest =>
        obtain ⟨rfl, rfl⟩ := hcut
        go_upto_region 22 with fail
        go_cut [28] (fun s w => s = .bool true ∧ w = wc)
        case first =>
          go_wp2_with fail
          all_goals (go_meet; case rel => refine ⟨congrArg Value.bool ?_, rfl⟩; have hr' := hr.out; clear hr; simp_all [anyGiven])
        case rest =>
          obtain ⟨rfl, rfl⟩ := hcut
          cases e1 : clash3 a b c with
          | true =>
            go_wp2
            go_ret
            exact ⟨rfl, HB⟩
          | false =>
            have e2 : clash3 ta tb tc = true := by have := hc.out; simpa [e1] using this
            go_wp2
            go_ret
            exact ⟨rfl, HB⟩
end
end Go.Proofs.Qxb6605160a
