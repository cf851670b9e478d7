/-
  The contracts of (properties).with (13), ZZWith (9), zzBytes_FnWithGroupsFreely (8).
-/
import Derived.Test.Qxb6605160aRows
import Derived.WalkKit
import Derived.WalkSpells
import Derived.BigQuiet
import Derived.Deep.QuietTactic
import Derived.BigRegion
namespace Go.Proofs.Qxb6605160a
open Go.RowKit
def msgA : ByteArray := ⟨#[97, 32, 110, 111, 100, 101, 32, 99, 97, 110, 110, 111, 116, 32, 104, 97, 118, 101, 32, 116, 119, 111, 32, 97, 110, 99, 104, 111, 114, 115]⟩
def msgT : ByteArray := ⟨#[97, 32, 110, 111, 100, 101, 32, 99, 97, 110, 110, 111, 116, 32, 104, 97, 118, 101, 32, 116, 119, 111, 32, 116, 97, 103, 115]⟩
def msgN : ByteArray := ⟨#[]⟩
/-- both are given -/
def clash (x y : ByteArray) : Bool := !x.toList.isEmpty && !y.toList.isEmpty
def pick (x y : ByteArray) : ByteArray := if x.toList.isEmpty then y else x
def wA (pa pt aa ta : ByteArray) : ByteArray := if clash pa aa || clash pt ta then pa else pick pa aa
def wT (pa pt aa ta : ByteArray) : ByteArray := if clash pa aa || clash pt ta then pt else pick pt ta
def wM (pa pt aa ta : ByteArray) : ByteArray := if clash pa aa then msgA else if clash pt ta then msgT else msgN
set_option maxHeartbeats 400000 in
theorem with_c1 (pa pt aa ta : ByteArray) (w : World) (h_pa : pa.toList.isEmpty = false) (h_aa : aa.toList.isEmpty = false) :
    Calls Try.prog 13 #[.agg #[.string pa, .string pt], .agg #[.string aa, .string ta]] w fun e w' => e = .returned (.tuple #[.agg #[.string pa, .string pt], .string msgA]) ∧ Below w.heap.size w w' := by
  go_enter Try.func13, Try.ntmps13
  go_wp2
  exact bodyPost_ret (v := .tuple #[.agg #[.string pa, .string pt], .string msgA]) (by simp [results, Try.results13, go_sem, msgA]) rfl ⟨rfl, (((Below.refl _ _).alloc (by simp) _).alloc (by simp) _).alloc (by simp; omega) _⟩
set_option maxHeartbeats 400000 in
theorem with_c2 (pa pt aa ta : ByteArray) (w : World) (h_pa : pa.toList.isEmpty = true) (h_pt : pt.toList.isEmpty = false) (h_ta : ta.toList.isEmpty = false) :
    Calls Try.prog 13 #[.agg #[.string pa, .string pt], .agg #[.string aa, .string ta]] w fun e w' => e = .returned (.tuple #[.agg #[.string pa, .string pt], .string msgT]) ∧ Below w.heap.size w w' := by
  go_enter Try.func13, Try.ntmps13
  go_wp2
  exact bodyPost_ret (v := .tuple #[.agg #[.string pa, .string pt], .string msgT]) (by simp [results, Try.results13, go_sem, msgT]) rfl ⟨rfl, (((Below.refl _ _).alloc (by simp) _).alloc (by simp) _).alloc (by simp; omega) _⟩
set_option maxHeartbeats 400000 in
theorem with_c3 (pa pt aa ta : ByteArray) (w : World) (h_pa : pa.toList.isEmpty = false) (h_aa : aa.toList.isEmpty = true) (h_pt : pt.toList.isEmpty = false) (h_ta : ta.toList.isEmpty = false) :
    Calls Try.prog 13 #[.agg #[.string pa, .string pt], .agg #[.string aa, .string ta]] w fun e w' => e = .returned (.tuple #[.agg #[.string pa, .string pt], .string msgT]) ∧ Below w.heap.size w w' := by
  go_enter Try.func13, Try.ntmps13
  go_wp2
  exact bodyPost_ret (v := .tuple #[.agg #[.string pa, .string pt], .string msgT]) (by simp [results, Try.results13, go_sem, msgT]) rfl ⟨rfl, (((Below.refl _ _).alloc (by simp) _).alloc (by simp) _).alloc (by simp; omega) _⟩
set_option maxHeartbeats 400000 in
theorem with_c4 (pa pt aa ta : ByteArray) (w : World) (h_pa : pa.toList.isEmpty = true) (h_pt : pt.toList.isEmpty = true) :
    Calls Try.prog 13 #[.agg #[.string pa, .string pt], .agg #[.string aa, .string ta]] w fun e w' => e = .returned (.tuple #[.agg #[.string aa, .string ta], .string msgN]) ∧ Below w.heap.size w w' := by
  go_enter Try.func13, Try.ntmps13
  go_wp2
  exact bodyPost_ret (v := .tuple #[.agg #[.string aa, .string ta], .string msgN]) (by simp [results, Try.results13, go_sem, msgN]) rfl ⟨rfl, (((Below.refl _ _).alloc (by simp) _).alloc (by simp) _).alloc (by simp; omega) _⟩
set_option maxHeartbeats 400000 in
theorem with_c5 (pa pt aa ta : ByteArray) (w : World) (h_pa : pa.toList.isEmpty = true) (h_pt : pt.toList.isEmpty = false) (h_ta : ta.toList.isEmpty = true) :
    Calls Try.prog 13 #[.agg #[.string pa, .string pt], .agg #[.string aa, .string ta]] w fun e w' => e = .returned (.tuple #[.agg #[.string aa, .string pt], .string msgN]) ∧ Below w.heap.size w w' := by
  go_enter Try.func13, Try.ntmps13
  go_wp2
  exact bodyPost_ret (v := .tuple #[.agg #[.string aa, .string pt], .string msgN]) (by simp [results, Try.results13, go_sem, msgN]) rfl ⟨rfl, (((Below.refl _ _).alloc (by simp) _).alloc (by simp) _).alloc (by simp; omega) _⟩
set_option maxHeartbeats 400000 in
theorem with_c6 (pa pt aa ta : ByteArray) (w : World) (h_pa : pa.toList.isEmpty = false) (h_aa : aa.toList.isEmpty = true) (h_pt : pt.toList.isEmpty = true) :
    Calls Try.prog 13 #[.agg #[.string pa, .string pt], .agg #[.string aa, .string ta]] w fun e w' => e = .returned (.tuple #[.agg #[.string pa, .string ta], .string msgN]) ∧ Below w.heap.size w w' := by
  go_enter Try.func13, Try.ntmps13
  go_wp2
  exact bodyPost_ret (v := .tuple #[.agg #[.string pa, .string ta], .string msgN]) (by simp [results, Try.results13, go_sem, msgN]) rfl ⟨rfl, (((Below.refl _ _).alloc (by simp) _).alloc (by simp) _).alloc (by simp; omega) _⟩
set_option maxHeartbeats 400000 in
theorem with_c7 (pa pt aa ta : ByteArray) (w : World) (h_pa : pa.toList.isEmpty = false) (h_aa : aa.toList.isEmpty = true) (h_pt : pt.toList.isEmpty = false) (h_ta : ta.toList.isEmpty = true) :
    Calls Try.prog 13 #[.agg #[.string pa, .string pt], .agg #[.string aa, .string ta]] w fun e w' => e = .returned (.tuple #[.agg #[.string pa, .string pt], .string msgN]) ∧ Below w.heap.size w w' := by
  go_enter Try.func13, Try.ntmps13
  go_wp2
  exact bodyPost_ret (v := .tuple #[.agg #[.string pa, .string pt], .string msgN]) (by simp [results, Try.results13, go_sem, msgN]) rfl ⟨rfl, (((Below.refl _ _).alloc (by simp) _).alloc (by simp) _).alloc (by simp; omega) _⟩
theorem with_any (pa pt aa ta : ByteArray) (w : World) :
    Calls Try.prog 13 #[.agg #[.string pa, .string pt], .agg #[.string aa, .string ta]] w fun e w' => e = .returned (.tuple #[.agg #[.string (wA pa pt aa ta), .string (wT pa pt aa ta)], .string (wM pa pt aa ta)]) ∧ Below w.heap.size w w' := by
  unfold wA wT wM pick clash
  · cases h_pa : pa.toList.isEmpty with
    | false =>
      · cases h_aa : aa.toList.isEmpty with
        | false =>
          · simpa [h_pa, h_aa] using with_c1 pa pt aa ta w h_pa h_aa
        | true =>
          · cases h_pt : pt.toList.isEmpty with
            | false =>
              · cases h_ta : ta.toList.isEmpty with
                | false =>
                  · simpa [h_pa, h_aa, h_pt, h_ta] using with_c3 pa pt aa ta w h_pa h_aa h_pt h_ta
                | true =>
                  · simpa [h_pa, h_aa, h_pt, h_ta] using with_c7 pa pt aa ta w h_pa h_aa h_pt h_ta
            | true =>
              · simpa [h_pa, h_aa, h_pt] using with_c6 pa pt aa ta w h_pa h_aa h_pt
    | true =>
      · cases h_pt : pt.toList.isEmpty with
        | false =>
          · cases h_ta : ta.toList.isEmpty with
            | false =>
              · simpa [h_pa, h_pt, h_ta] using with_c2 pa pt aa ta w h_pa h_pt h_ta
            | true =>
              · simpa [h_pa, h_pt, h_ta] using with_c5 pa pt aa ta w h_pa h_pt h_ta
        | true =>
          · simpa [h_pa, h_pt] using with_c4 pa pt aa ta w h_pa h_pt
set_option maxHeartbeats 400000 in
theorem zzwith_any (pa pt aa ta : ByteArray) (w : World) :
    Calls Try.prog 9 #[.string pa, .string pt, .string aa, .string ta] w fun e w' => e = .returned (.tuple #[.string (wA pa pt aa ta), .string (wT pa pt aa ta), .string (wM pa pt aa ta)]) ∧ Below w.heap.size w w' := by
  have hh := fun wx => with_any pa pt aa ta wx
  generalize wA pa pt aa ta = ra at *
  generalize wT pa pt aa ta = rt at *
  generalize wM pa pt aa ta = rm at *
  have HH : Hid (∀ wx : World, Calls Try.prog 13 #[.agg #[.string pa, .string pt], .agg #[.string aa, .string ta]] wx fun e w' => e = .returned (.tuple #[.agg #[.string ra, .string rt], .string rm]) ∧ Below wx.heap.size wx w') := hh
  clear hh
  go_enter Try.func9, Try.ntmps9
  go_wp2_with fail
  refine (HH.out _).mono ?_
  rintro e w1 ⟨rfl, hb⟩
  go_wp2
  go_quiet (fail)
  go_wp2
  go_ret3
  refine ⟨rfl, (hb.trans ((Below.refl _ _).alloc hb.size _)).trans ⟨rfl, rfl, rfl, Nat.le_refl _, fun _ _ => rfl⟩⟩
def fits6 (a b c d e f : ByteArray) : Bool := decide (a.size + b.size + c.size + d.size + e.size + f.size ≤ 1048576)
section
variable (a b c d e f : ByteArray) (w : World)
set_option maxHeartbeats 400000 in
theorem bytes_x0 (h : ¬ a.size ≤ 1048576) :
    Calls Try.prog 8 #[.string a, .string b, .string c, .string d, .string e, .string f] w fun o w' => o = .returned (.bool false) ∧ w' = w := by
  go_enter Try.func8, Try.ntmps8
  go_wp2
  go_ret
  exact ⟨rfl, rfl⟩
set_option maxHeartbeats 400000 in
theorem bytes_x1 (hp : a.size ≤ 1048576) (h : ¬ b.size ≤ 1048576) :
    Calls Try.prog 8 #[.string a, .string b, .string c, .string d, .string e, .string f] w fun o w' => o = .returned (.bool false) ∧ w' = w := by
  have p0 : a.size ≤ 1048576 := by omega
  have q0 : a.size ≤ 1048576 := by omega
  go_enter Try.func8, Try.ntmps8
  go_wp2
  go_ret
  exact ⟨rfl, rfl⟩
set_option maxHeartbeats 400000 in
theorem bytes_y1 (hp : a.size ≤ 1048576) (h0 : b.size ≤ 1048576) (h : ¬ a.size + b.size ≤ 1048576) :
    Calls Try.prog 8 #[.string a, .string b, .string c, .string d, .string e, .string f] w fun o w' => o = .returned (.bool false) ∧ w' = w := by
  have p0 : a.size ≤ 1048576 := by omega
  have q0 : a.size ≤ 1048576 := by omega
  go_enter Try.func8, Try.ntmps8
  go_wp2
  go_ret
  exact ⟨rfl, rfl⟩
set_option maxHeartbeats 400000 in
theorem bytes_x2 (hp : a.size + b.size ≤ 1048576) (h : ¬ c.size ≤ 1048576) :
    Calls Try.prog 8 #[.string a, .string b, .string c, .string d, .string e, .string f] w fun o w' => o = .returned (.bool false) ∧ w' = w := by
  have p0 : a.size ≤ 1048576 := by omega
  have q0 : a.size ≤ 1048576 := by omega
  have p1 : a.size + b.size ≤ 1048576 := by omega
  have q1 : b.size ≤ 1048576 := by omega
  go_enter Try.func8, Try.ntmps8
  go_wp2
  go_ret
  exact ⟨rfl, rfl⟩
set_option maxHeartbeats 400000 in
theorem bytes_y2 (hp : a.size + b.size ≤ 1048576) (h0 : c.size ≤ 1048576) (h : ¬ a.size + b.size + c.size ≤ 1048576) :
    Calls Try.prog 8 #[.string a, .string b, .string c, .string d, .string e, .string f] w fun o w' => o = .returned (.bool false) ∧ w' = w := by
  have p0 : a.size ≤ 1048576 := by omega
  have q0 : a.size ≤ 1048576 := by omega
  have p1 : a.size + b.size ≤ 1048576 := by omega
  have q1 : b.size ≤ 1048576 := by omega
  go_enter Try.func8, Try.ntmps8
  go_wp2
  go_ret
  exact ⟨rfl, rfl⟩
set_option maxHeartbeats 400000 in
theorem bytes_x3 (hp : a.size + b.size + c.size ≤ 1048576) (h : ¬ d.size ≤ 1048576) :
    Calls Try.prog 8 #[.string a, .string b, .string c, .string d, .string e, .string f] w fun o w' => o = .returned (.bool false) ∧ w' = w := by
  have p0 : a.size ≤ 1048576 := by omega
  have q0 : a.size ≤ 1048576 := by omega
  have p1 : a.size + b.size ≤ 1048576 := by omega
  have q1 : b.size ≤ 1048576 := by omega
  have p2 : a.size + b.size + c.size ≤ 1048576 := by omega
  have q2 : c.size ≤ 1048576 := by omega
  go_enter Try.func8, Try.ntmps8
  go_wp2
  go_ret
  exact ⟨rfl, rfl⟩
set_option maxHeartbeats 400000 in
theorem bytes_y3 (hp : a.size + b.size + c.size ≤ 1048576) (h0 : d.size ≤ 1048576) (h : ¬ a.size + b.size + c.size + d.size ≤ 1048576) :
    Calls Try.prog 8 #[.string a, .string b, .string c, .string d, .string e, .string f] w fun o w' => o = .returned (.bool false) ∧ w' = w := by
  have p0 : a.size ≤ 1048576 := by omega
  have q0 : a.size ≤ 1048576 := by omega
  have p1 : a.size + b.size ≤ 1048576 := by omega
  have q1 : b.size ≤ 1048576 := by omega
  have p2 : a.size + b.size + c.size ≤ 1048576 := by omega
  have q2 : c.size ≤ 1048576 := by omega
  go_enter Try.func8, Try.ntmps8
  go_wp2
  go_ret
  exact ⟨rfl, rfl⟩
set_option maxHeartbeats 400000 in
theorem bytes_x4 (hp : a.size + b.size + c.size + d.size ≤ 1048576) (h : ¬ e.size ≤ 1048576) :
    Calls Try.prog 8 #[.string a, .string b, .string c, .string d, .string e, .string f] w fun o w' => o = .returned (.bool false) ∧ w' = w := by
  have p0 : a.size ≤ 1048576 := by omega
  have q0 : a.size ≤ 1048576 := by omega
  have p1 : a.size + b.size ≤ 1048576 := by omega
  have q1 : b.size ≤ 1048576 := by omega
  have p2 : a.size + b.size + c.size ≤ 1048576 := by omega
  have q2 : c.size ≤ 1048576 := by omega
  have p3 : a.size + b.size + c.size + d.size ≤ 1048576 := by omega
  have q3 : d.size ≤ 1048576 := by omega
  go_enter Try.func8, Try.ntmps8
  go_wp2
  go_ret
  exact ⟨rfl, rfl⟩
set_option maxHeartbeats 400000 in
theorem bytes_y4 (hp : a.size + b.size + c.size + d.size ≤ 1048576) (h0 : e.size ≤ 1048576) (h : ¬ a.size + b.size + c.size + d.size + e.size ≤ 1048576) :
    Calls Try.prog 8 #[.string a, .string b, .string c, .string d, .string e, .string f] w fun o w' => o = .returned (.bool false) ∧ w' = w := by
  have p0 : a.size ≤ 1048576 := by omega
  have q0 : a.size ≤ 1048576 := by omega
  have p1 : a.size + b.size ≤ 1048576 := by omega
  have q1 : b.size ≤ 1048576 := by omega
  have p2 : a.size + b.size + c.size ≤ 1048576 := by omega
  have q2 : c.size ≤ 1048576 := by omega
  have p3 : a.size + b.size + c.size + d.size ≤ 1048576 := by omega
  have q3 : d.size ≤ 1048576 := by omega
  go_enter Try.func8, Try.ntmps8
  go_wp2
  go_ret
  exact ⟨rfl, rfl⟩
set_option maxHeartbeats 400000 in
theorem bytes_x5 (hp : a.size + b.size + c.size + d.size + e.size ≤ 1048576) (h : ¬ f.size ≤ 1048576) :
    Calls Try.prog 8 #[.string a, .string b, .string c, .string d, .string e, .string f] w fun o w' => o = .returned (.bool false) ∧ w' = w := by
  have p0 : a.size ≤ 1048576 := by omega
  have q0 : a.size ≤ 1048576 := by omega
  have p1 : a.size + b.size ≤ 1048576 := by omega
  have q1 : b.size ≤ 1048576 := by omega
  have p2 : a.size + b.size + c.size ≤ 1048576 := by omega
  have q2 : c.size ≤ 1048576 := by omega
  have p3 : a.size + b.size + c.size + d.size ≤ 1048576 := by omega
  have q3 : d.size ≤ 1048576 := by omega
  have p4 : a.size + b.size + c.size + d.size + e.size ≤ 1048576 := by omega
  have q4 : e.size ≤ 1048576 := by omega
  go_enter Try.func8, Try.ntmps8
  go_wp2
  go_ret
  exact ⟨rfl, rfl⟩
set_option maxHeartbeats 400000 in
theorem bytes_y5 (hp : a.size + b.size + c.size + d.size + e.size ≤ 1048576) (h0 : f.size ≤ 1048576) (h : ¬ a.size + b.size + c.size + d.size + e.size + f.size ≤ 1048576) :
    Calls Try.prog 8 #[.string a, .string b, .string c, .string d, .string e, .string f] w fun o w' => o = .returned (.bool false) ∧ w' = w := by
  have p0 : a.size ≤ 1048576 := by omega
  have q0 : a.size ≤ 1048576 := by omega
  have p1 : a.size + b.size ≤ 1048576 := by omega
  have q1 : b.size ≤ 1048576 := by omega
  have p2 : a.size + b.size + c.size ≤ 1048576 := by omega
  have q2 : c.size ≤ 1048576 := by omega
  have p3 : a.size + b.size + c.size + d.size ≤ 1048576 := by omega
  have q3 : d.size ≤ 1048576 := by omega
  have p4 : a.size + b.size + c.size + d.size + e.size ≤ 1048576 := by omega
  have q4 : e.size ≤ 1048576 := by omega
  go_enter Try.func8, Try.ntmps8
  go_wp2
  go_ret
  exact ⟨rfl, rfl⟩
set_option maxHeartbeats 400000 in
theorem bytes_t (hp : a.size + b.size + c.size + d.size + e.size + f.size ≤ 1048576) :
    Calls Try.prog 8 #[.string a, .string b, .string c, .string d, .string e, .string f] w fun o w' => o = .returned (.bool true) ∧ w' = w := by
  have p0 : a.size ≤ 1048576 := by omega
  have q0 : a.size ≤ 1048576 := by omega
  have p1 : a.size + b.size ≤ 1048576 := by omega
  have q1 : b.size ≤ 1048576 := by omega
  have p2 : a.size + b.size + c.size ≤ 1048576 := by omega
  have q2 : c.size ≤ 1048576 := by omega
  have p3 : a.size + b.size + c.size + d.size ≤ 1048576 := by omega
  have q3 : d.size ≤ 1048576 := by omega
  have p4 : a.size + b.size + c.size + d.size + e.size ≤ 1048576 := by omega
  have q4 : e.size ≤ 1048576 := by omega
  have p5 : a.size + b.size + c.size + d.size + e.size + f.size ≤ 1048576 := by omega
  have q5 : f.size ≤ 1048576 := by omega
  go_enter Try.func8, Try.ntmps8
  go_wp2
  go_ret
  exact ⟨rfl, rfl⟩
theorem bytes8_any :
    Calls Try.prog 8 #[.string a, .string b, .string c, .string d, .string e, .string f] w fun o w' => o = .returned (.bool (fits6 a b c d e f)) ∧ w' = w := by
  by_cases hp : a.size + b.size + c.size + d.size + e.size + f.size ≤ 1048576
  · rw [show fits6 a b c d e f = true from by simp [fits6, hp]]; exact bytes_t a b c d e f w hp
  rw [show fits6 a b c d e f = false from by simp [fits6, hp]]
  by_cases x0 : a.size ≤ 1048576
  case neg => exact bytes_x0 a b c d e f w x0
  by_cases x1 : b.size ≤ 1048576
  case neg => exact bytes_x1 a b c d e f w (by omega) x1
  by_cases y1 : a.size + b.size ≤ 1048576
  case neg => exact bytes_y1 a b c d e f w (by omega) x1 y1
  by_cases x2 : c.size ≤ 1048576
  case neg => exact bytes_x2 a b c d e f w (by omega) x2
  by_cases y2 : a.size + b.size + c.size ≤ 1048576
  case neg => exact bytes_y2 a b c d e f w (by omega) x2 y2
  by_cases x3 : d.size ≤ 1048576
  case neg => exact bytes_x3 a b c d e f w (by omega) x3
  by_cases y3 : a.size + b.size + c.size + d.size ≤ 1048576
  case neg => exact bytes_y3 a b c d e f w (by omega) x3 y3
  by_cases x4 : e.size ≤ 1048576
  case neg => exact bytes_x4 a b c d e f w (by omega) x4
  by_cases y4 : a.size + b.size + c.size + d.size + e.size ≤ 1048576
  case neg => exact bytes_y4 a b c d e f w (by omega) x4 y4
  by_cases x5 : f.size ≤ 1048576
  case neg => exact bytes_x5 a b c d e f w (by omega) x5
  by_cases y5 : a.size + b.size + c.size + d.size + e.size + f.size ≤ 1048576
  case neg => exact bytes_y5 a b c d e f w (by omega) x5 y5
  exact absurd y5 hp
end
end Go.Proofs.Qxb6605160a
