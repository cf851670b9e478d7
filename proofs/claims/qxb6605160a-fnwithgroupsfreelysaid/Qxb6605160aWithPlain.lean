/-
  The plain law of FnWithGroupsFreely: no run of the program in sight.
-/
import Derived.Test.Qxb6605160aWithWalks
namespace Go.Proofs.Qxb6605160a
open Go.RowKit
def With (a ta b tb x y z : ByteArray) : Prop := ∀ wx : World, Calls Try.prog 9 #[.string a, .string ta, .string b, .string tb] wx fun e w' => e = .returned (.tuple #[.string x, .string y, .string z]) ∧ Below wx.heap.size wx w'
def anyGiven (x y : ByteArray) : Bool := !x.toList.isEmpty || !y.toList.isEmpty
def clash3 (a b c : ByteArray) : Bool := clash a b || clash a c || clash b c
theorem empty_eq {x : ByteArray} (h : x.toList.isEmpty = true) : x = ByteArray.empty :=
  (toList_nil_iff_emptyBytes x).1 (by simpa using h)
theorem e_N : msgN.toList.isEmpty = true := by simp [msgN, ByteArray.toList_eq]
theorem e_A : msgA.toList.isEmpty = false := by simp [msgA, ByteArray.toList_eq]
theorem e_T : msgT.toList.isEmpty = false := by simp [msgT, ByteArray.toList_eq]
theorem e_wM (pa pt aa ta : ByteArray) : (wM pa pt aa ta).toList.isEmpty = !(clash pa aa || clash pt ta) := by
  unfold wM
  cases clash pa aa <;> cases clash pt ta <;> simp [e_N, e_A, e_T]
theorem e_pick (x y : ByteArray) : (pick x y).toList.isEmpty = (x.toList.isEmpty && y.toList.isEmpty) := by
  unfold pick
  cases h : x.toList.isEmpty <;> simp [h]
theorem e_wA (pa pt aa ta : ByteArray) : (wA pa pt aa ta).toList.isEmpty = bif clash pa aa || clash pt ta then pa.toList.isEmpty else pa.toList.isEmpty && aa.toList.isEmpty := by
  unfold wA
  cases clash pa aa || clash pt ta <;> simp [e_pick]
theorem e_wT (pa pt aa ta : ByteArray) : (wT pa pt aa ta).toList.isEmpty = bif clash pa aa || clash pt ta then pt.toList.isEmpty else pt.toList.isEmpty && ta.toList.isEmpty := by
  unfold wT
  cases clash pa aa || clash pt ta <;> simp [e_pick]
section
variable (a ta b tb c tc : ByteArray)
theorem plain_clash (h : (clash3 a b c || clash3 ta tb tc) = true) :
    anyGiven (wM a ta b tb) (wM (wA a ta b tb) (wT a ta b tb) c tc) = true ∧ anyGiven (wM b tb c tc) (wM a ta (wA b tb c tc) (wT b tb c tc)) = true := by
  unfold anyGiven
  unfold clash3 clash at h
  simp only [e_wM, clash, e_wA, e_wT] at h ⊢
  generalize a.toList.isEmpty = A at *
  generalize b.toList.isEmpty = B at *
  generalize c.toList.isEmpty = C at *
  generalize ta.toList.isEmpty = D at *
  generalize tb.toList.isEmpty = E at *
  generalize tc.toList.isEmpty = F at *
  revert A B C D E F
  decide
theorem plain_quiet (h : clash3 a b c = false) (k : clash3 ta tb tc = false) :
    (wM a ta b tb).toList.isEmpty = true ∧ (wM (wA a ta b tb) (wT a ta b tb) c tc).toList.isEmpty = true ∧ (wM b tb c tc).toList.isEmpty = true ∧ (wM a ta (wA b tb c tc) (wT b tb c tc)).toList.isEmpty = true := by
  unfold clash3 clash at h k
  simp only [e_wM, clash, e_wA, e_wT]
  generalize a.toList.isEmpty = A at *
  generalize b.toList.isEmpty = B at *
  generalize c.toList.isEmpty = C at *
  generalize ta.toList.isEmpty = D at *
  generalize tb.toList.isEmpty = E at *
  generalize tc.toList.isEmpty = F at *
  revert A B C D E F
  decide
theorem pick_append (x y : ByteArray) (h : clash x y = false) : pick x y = x ++ y := by
  unfold clash at h
  unfold pick
  cases hx : x.toList.isEmpty with
  | true => rw [empty_eq hx]; simp
  | false =>
    have hy : y.toList.isEmpty = true := by simpa [hx] using h
    rw [empty_eq hy]; simp
theorem clash_append_left (x y z : ByteArray) (h : clash3 x y z = false) : clash x y = false ∧ clash y z = false ∧ clash (x ++ y) z = false ∧ clash x (y ++ z) = false := by
  have h0 := h
  unfold clash3 at h0
  have hxy : clash x y = false := by revert h0; cases clash x y <;> simp
  have hyz : clash y z = false := by revert h0; cases clash y z <;> simp
  have e1 := pick_append x y hxy
  have e2 := pick_append y z hyz
  refine ⟨hxy, hyz, ?_, ?_⟩
  · rw [← e1]
    unfold clash3 at h
    unfold clash at *
    rw [e_pick]
    generalize x.toList.isEmpty = A at *
    generalize y.toList.isEmpty = B at *
    generalize z.toList.isEmpty = C at *
    clear e1 e2
    revert A B C
    decide
  · rw [← e2]
    unfold clash3 at h
    unfold clash at *
    rw [e_pick]
    generalize x.toList.isEmpty = A at *
    generalize y.toList.isEmpty = B at *
    generalize z.toList.isEmpty = C at *
    clear e1 e2
    revert A B C
    decide
theorem plain_eqs (h : clash3 a b c = false) (k : clash3 ta tb tc = false) :
    wA (wA a ta b tb) (wT a ta b tb) c tc = a ++ b ++ c ∧ wT (wA a ta b tb) (wT a ta b tb) c tc = ta ++ tb ++ tc ∧ wA a ta (wA b tb c tc) (wT b tb c tc) = a ++ b ++ c ∧ wT a ta (wA b tb c tc) (wT b tb c tc) = ta ++ tb ++ tc := by
  obtain ⟨h1, h2, h3, h4⟩ := clash_append_left a b c h
  obtain ⟨k1, k2, k3, k4⟩ := clash_append_left ta tb tc k
  have a1 : wA a ta b tb = a ++ b := by simp [wA, h1, k1, pick_append]
  have a2 : wT a ta b tb = ta ++ tb := by simp [wT, h1, k1, pick_append]
  have a3 : wA b tb c tc = b ++ c := by simp [wA, h2, k2, pick_append]
  have a4 : wT b tb c tc = tb ++ tc := by simp [wT, h2, k2, pick_append]
  rw [a1, a2, a3, a4]
  refine ⟨?_, ?_, ?_, ?_⟩
  · simp [wA, h3, k3, pick_append]
  · simp [wT, h3, k3, pick_append]
  · simp [wA, h4, k4, pick_append, ByteArray.append_assoc]
  · simp [wT, h4, k4, pick_append, ByteArray.append_assoc]
end
end Go.Proofs.Qxb6605160a
