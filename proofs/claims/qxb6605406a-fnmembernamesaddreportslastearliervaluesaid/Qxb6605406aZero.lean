/-
  FnMemberNamesAddReportsLastEarlierValue (7) at no member at all.
-/
import Derived.Test.Qxb6605406aMembers
namespace Go.Proofs.Qxb6605406a
open Go.RowKit
set_option maxRecDepth 100000 in
set_option maxHeartbeats 400000 in
theorem bytes21_zero (w : World) (a : Option Addr) (cap : Nat) : Calls Try.prog 21 #[.slice a 0 cap] w fun e w' => e = .returned (.bool true) ∧ w = w' := by
  go_enter Try.func21, Try.ntmps21
  go_wp2
  go_loopw [4] (fun i wr => i = .int .i64 0 ∧ w = wr) (fun _ _ => 0)
  case atStart => exact ⟨rfl, rfl⟩
  case round =>
    obtain ⟨rfl, rfl⟩ := hrel
    go_wp2
    go_ret
    exact ⟨rfl, rfl⟩
set_option maxRecDepth 100000 in
set_option maxHeartbeats 400000 in
theorem members_zero_nil (w : World) : Calls Try.prog 22 #[.slice none 0 0] w fun e w' => e = .returned (.slice none 0 0) ∧ w = w' := by
  have heq := fun wx => Lib.run_eql_slice_nil (P := Try.prog) wx 33 36 none 0 0 0 0 Try.underlying33
  go_enter Try.func22, Try.ntmps22
  go_wp2
  go_ret
  exact ⟨rfl, rfl⟩
set_option maxRecDepth 100000 in
set_option maxHeartbeats 400000 in
theorem members_zero (w : World) (x : Addr) (cap : Nat) : Calls Try.prog 22 #[.slice (some x) 0 cap] w fun e w' => e = .returned (.slice (some ⟨w.heap.size, 0, none⟩) 0 0) ∧ Below w.heap.size w w' := by
  have heq := fun wx => Lib.run_eql_slice_nil (P := Try.prog) wx 33 36 (some x) 0 cap 0 0 Try.underlying33
  have hmk : ∀ wx : World, (Instr.makeSlice 33 (.int .i64 0) (.int .i64 0)).run Try.prog wx = .ok (.slice (some ⟨wx.heap.size, 0, none⟩) 0 0) (wx.alloc (.cells (madeCells #[.string ⟨#[]⟩, .int .i64 0, .int .i64 0, .slice none 0 0] 0) 36)) := fun wx => make33 0 (by omega) wx
  go_enter Try.func22, Try.ntmps22
  go_wp2
  go_loopw [4] (fun i wr => i = .int .i64 0 ∧ Below w.heap.size w wr) (fun _ _ => 0)
  case atStart => exact ⟨rfl, (Below.refl _ _).alloc (Nat.le_refl _) _⟩
  case round =>
    obtain ⟨rfl, hB⟩ := hrel
    go_wp2
    go_ret
    exact ⟨rfl, hB⟩
theorem members_none (w : World) (a : Option Addr) (cap : Nat) (h : a = none → cap = 0) : Calls Try.prog 22 #[.slice a 0 cap] w fun e w' => (∃ a', e = .returned (.slice a' 0 0)) ∧ Below w.heap.size w w' := by
  cases a with
  | none =>
    rw [h rfl]
    exact (members_zero_nil w).mono fun e w' ⟨he, hw⟩ => ⟨⟨none, he⟩, hw ▸ Below.refl _ _⟩
  | some x => exact (members_zero w x cap).mono fun e w' ⟨he, hw⟩ => ⟨⟨_, he⟩, hw⟩
set_option maxRecDepth 100000 in
set_option maxHeartbeats 400000 in
theorem law_zero (w : World) (a : Option Addr) (cap : Nat) (h : a = none → cap = 0) : Calls Try.prog 7 #[.slice a 0 cap] w fun e w' => e = .returned (.bool true) ∧ Below w.heap.size w w' := by
  have C22 : Hid (∀ wx : World, Calls Try.prog 22 #[.slice a 0 cap] wx fun e w' => (∃ a', e = .returned (.slice a' 0 0)) ∧ Below wx.heap.size wx w') := fun wx => members_none wx a cap h
  clear h
  go_enter Try.func7, Try.ntmps7
  go_wp2_with (go_at_call 21; refine (bytes21_zero _ _ _).mono ?_; rintro e w' ⟨rfl, rfl⟩)
  go_loopw [4] (fun i wr => i = .int .i64 0 ∧ w = wr) (fun _ _ => 0)
  case atStart => exact ⟨rfl, rfl⟩
  case round =>
    obtain ⟨rfl, rfl⟩ := hrel
    go_wp2_with fail
    refine (C22.out _).mono ?_
    rintro e w2 ⟨⟨a', rfl⟩, hB⟩
    go_wp2
    go_loopw [6] (fun i wr => i = .int .i64 0 ∧ Below w.heap.size w wr) (fun _ _ => 0)
    case atStart => exact ⟨rfl, hB.alloc hB.size _⟩
    case round =>
      obtain ⟨rfl, hB'⟩ := hrel
      go_wp2
      go_ret
      exact ⟨rfl, hB'⟩
end Go.Proofs.Qxb6605406a
