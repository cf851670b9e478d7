/-
  The law FnClientEndWhole (3), walked a case at a time out of the contracts.
-/
import Derived.Test.Qxb6604035aWholeWalks
namespace Go.Proofs.Qxb6604035a
open Go.RowKit
section
variable (n cl id iss : Int) (c0 r0 : Int) (kd : Int) (k v : ByteArray) (nl un : Bool) (ca at0 : Int) (w : World)
set_option maxRecDepth 100000 in
set_option maxHeartbeats 400000 in
theorem law_big (ok : Bool) (hf : fits k v = false) :
    Calls Try.prog 3 #[.agg #[.int .i64 n, .int .i64 cl, .int .i64 id, .int .i64 iss], .agg #[.int .i64 c0, .int .u8 kd, .string k, .string v, .bool nl, .int .i64 ca, .int .i64 r0, .bool un], .int .i64 at0, .bool ok] w fun e w' => e = .returned (.bool true) ∧ Below w.heap.size w w' := by
  go_enter Try.func3, Try.ntmps3
  go_wp2_with (go_at_call 5; refine (bytes_any _ _ _ _ _ _ _ _ _ _ _ _ _ _ _).mono ?_; rintro e w' ⟨rfl, rfl⟩)
  go_ret
  exact ⟨rfl, (((Below.refl _ _).alloc (by simp) _).alloc (by simp) _).alloc (by simp; omega) _ |>.alloc (by simp; omega) _⟩
set_option maxRecDepth 100000 in
set_option maxHeartbeats 1000000 in
theorem law_read (hf : fits k v = true) (h1 : k.size ≤ 1048576) (h2 : v.size ≤ 1048576) (h3 : k.size + v.size ≤ 1048576) (hk : (kd == 1) = true) :
    Calls Try.prog 3 #[.agg #[.int .i64 n, .int .i64 cl, .int .i64 id, .int .i64 iss], .agg #[.int .i64 c0, .int .u8 kd, .string k, .string v, .bool nl, .int .i64 ca, .int .i64 r0, .bool un], .int .i64 at0, .bool false] w fun e w' => e = .returned (.bool true) ∧ Below w.heap.size w w' := by
  go_enter Try.func3, Try.ntmps3
  go_wp2_with (first | (go_at_call 5; refine (bytes_any _ _ _ _ _ _ _ _ _ _ _ _ _ _ _).mono ?_; rintro e w' ⟨rfl, rfl⟩) | (go_at_call 6; refine (new_any _ _ _ _ _).mono ?_; rintro e w' ⟨rfl, rfl⟩) | (go_at_call 8; refine (oper_any _ _ _ _ _ _ _ _ _).mono ?_; rintro e w' ⟨rfl, rfl⟩) | (go_at_call 7; refine (end_read _ _ _ _ _ _ _ _ _ _ _ hk).mono ?_; rintro e w' ⟨rfl, rfl⟩))
  refine (fields_any _ n cl id iss _ (by simp [go_sem]) (by simp [go_sem]) (by simp [go_sem]) (by simp [go_sem])).mono ?_
  rintro e w' ⟨rfl, n1, rfl⟩
  go_wp2
  go_ret
  exact ⟨rfl, below_draws (by repeat (first | exact Below.refl _ _ | refine Below.alloc ?_ (by simp <;> omega) _)) _⟩
set_option maxRecDepth 100000 in
set_option maxHeartbeats 1000000 in
theorem law_ok1 (hf : fits k v = true) (h1 : k.size ≤ 1048576) (h2 : v.size ≤ 1048576) (h3 : k.size + v.size ≤ 1048576) (hlt : at0 < wrap64 (ca + 1)) (g1 : at0 ≤ ca) (g2 : ca < 9223372036854775807) :
    Calls Try.prog 3 #[.agg #[.int .i64 n, .int .i64 cl, .int .i64 id, .int .i64 iss], .agg #[.int .i64 c0, .int .u8 kd, .string k, .string v, .bool nl, .int .i64 ca, .int .i64 r0, .bool un], .int .i64 at0, .bool true] w fun e w' => e = .returned (.bool true) ∧ Below w.heap.size w w' := by
  go_enter Try.func3, Try.ntmps3
  go_wp2_with (first | (go_at_call 5; refine (bytes_any _ _ _ _ _ _ _ _ _ _ _ _ _ _ _).mono ?_; rintro e w' ⟨rfl, rfl⟩) | (go_at_call 6; refine (new_any _ _ _ _ _).mono ?_; rintro e w' ⟨rfl, rfl⟩) | (go_at_call 8; refine (oper_any _ _ _ _ _ _ _ _ _).mono ?_; rintro e w' ⟨rfl, rfl⟩) | (go_at_call 7; refine (end_ok1 _ _ _ _ _ _ _ _ _ _ _ hlt).mono ?_; rintro e w' ⟨rfl, rfl⟩))
  refine (fields_any _ n cl id iss _ (by simp [go_sem]) (by simp [go_sem]) (by simp [go_sem]) (by simp [go_sem])).mono ?_
  rintro e w' ⟨rfl, n1, rfl⟩
  go_wp2
  go_ret
  exact ⟨rfl, below_draws (by repeat (first | exact Below.refl _ _ | refine Below.alloc ?_ (by simp <;> omega) _)) _⟩
set_option maxRecDepth 100000 in
set_option maxHeartbeats 1000000 in
theorem law_ok2 (hf : fits k v = true) (h1 : k.size ≤ 1048576) (h2 : v.size ≤ 1048576) (h3 : k.size + v.size ≤ 1048576) (hlt : wrap64 (ca + 1) ≤ at0) (g1 : at0 ≤ ca) (g2 : ¬ ca < 9223372036854775807) :
    Calls Try.prog 3 #[.agg #[.int .i64 n, .int .i64 cl, .int .i64 id, .int .i64 iss], .agg #[.int .i64 c0, .int .u8 kd, .string k, .string v, .bool nl, .int .i64 ca, .int .i64 r0, .bool un], .int .i64 at0, .bool true] w fun e w' => e = .returned (.bool true) ∧ Below w.heap.size w w' := by
  go_enter Try.func3, Try.ntmps3
  go_wp2_with (first | (go_at_call 5; refine (bytes_any _ _ _ _ _ _ _ _ _ _ _ _ _ _ _).mono ?_; rintro e w' ⟨rfl, rfl⟩) | (go_at_call 6; refine (new_any _ _ _ _ _).mono ?_; rintro e w' ⟨rfl, rfl⟩) | (go_at_call 8; refine (oper_any _ _ _ _ _ _ _ _ _).mono ?_; rintro e w' ⟨rfl, rfl⟩) | (go_at_call 7; refine (end_ok2 _ _ _ _ _ _ _ _ _ _ _ (Int.not_lt.mpr hlt)).mono ?_; rintro e w' ⟨rfl, rfl⟩))
  refine (fields_any _ n cl id iss _ (by simp [go_sem]) (by simp [go_sem]) (by simp [go_sem]) (by simp [go_sem])).mono ?_
  rintro e w' ⟨rfl, n1, rfl⟩
  go_wp2
  go_ret
  exact ⟨rfl, below_draws (by repeat (first | exact Below.refl _ _ | refine Below.alloc ?_ (by simp <;> omega) _)) _⟩
set_option maxRecDepth 100000 in
set_option maxHeartbeats 1000000 in
theorem law_ok3 (hf : fits k v = true) (h1 : k.size ≤ 1048576) (h2 : v.size ≤ 1048576) (h3 : k.size + v.size ≤ 1048576) (hlt : wrap64 (ca + 1) ≤ at0) (g1 : ¬ at0 ≤ ca) :
    Calls Try.prog 3 #[.agg #[.int .i64 n, .int .i64 cl, .int .i64 id, .int .i64 iss], .agg #[.int .i64 c0, .int .u8 kd, .string k, .string v, .bool nl, .int .i64 ca, .int .i64 r0, .bool un], .int .i64 at0, .bool true] w fun e w' => e = .returned (.bool true) ∧ Below w.heap.size w w' := by
  go_enter Try.func3, Try.ntmps3
  go_wp2_with (first | (go_at_call 5; refine (bytes_any _ _ _ _ _ _ _ _ _ _ _ _ _ _ _).mono ?_; rintro e w' ⟨rfl, rfl⟩) | (go_at_call 6; refine (new_any _ _ _ _ _).mono ?_; rintro e w' ⟨rfl, rfl⟩) | (go_at_call 8; refine (oper_any _ _ _ _ _ _ _ _ _).mono ?_; rintro e w' ⟨rfl, rfl⟩) | (go_at_call 7; refine (end_ok2 _ _ _ _ _ _ _ _ _ _ _ (Int.not_lt.mpr hlt)).mono ?_; rintro e w' ⟨rfl, rfl⟩))
  refine (fields_any _ n cl id iss _ (by simp [go_sem]) (by simp [go_sem]) (by simp [go_sem]) (by simp [go_sem])).mono ?_
  rintro e w' ⟨rfl, n1, rfl⟩
  go_wp2
  go_ret
  exact ⟨rfl, below_draws (by repeat (first | exact Below.refl _ _ | refine Below.alloc ?_ (by simp <;> omega) _)) _⟩
set_option maxRecDepth 100000 in
set_option maxHeartbeats 1000000 in
theorem law_fail (hf : fits k v = true) (h1 : k.size ≤ 1048576) (h2 : v.size ≤ 1048576) (h3 : k.size + v.size ≤ 1048576) (hk : (kd == 1) = false) (hid : (wrap64 (wrap64 (id + cl) - id) == cl) = true) :
    Calls Try.prog 3 #[.agg #[.int .i64 n, .int .i64 cl, .int .i64 id, .int .i64 iss], .agg #[.int .i64 c0, .int .u8 kd, .string k, .string v, .bool nl, .int .i64 ca, .int .i64 r0, .bool un], .int .i64 at0, .bool false] w fun e w' => e = .returned (.bool true) ∧ Below w.heap.size w w' := by
  go_enter Try.func3, Try.ntmps3
  go_wp2_with (first | (go_at_call 5; refine (bytes_any _ _ _ _ _ _ _ _ _ _ _ _ _ _ _).mono ?_; rintro e w' ⟨rfl, rfl⟩) | (go_at_call 6; refine (new_any _ _ _ _ _).mono ?_; rintro e w' ⟨rfl, rfl⟩) | (go_at_call 8; refine (oper_any _ _ _ _ _ _ _ _ _).mono ?_; rintro e w' ⟨rfl, rfl⟩))
  refine (end_fail _ cl id _ _ _ _ _ _ _ _ _ _ (by simp [go_sem]) (by simp [go_sem]) (by simp [go_sem]) (by simp) hk).mono ?_
  rintro e w' ⟨rfl, rfl⟩
  go_wp2_with fail
  refine (fields_any _ n cl (wrap64 (id + cl)) iss _ (by simp [go_sem]) (by simp [go_sem]) (by simp [go_sem]) (by simp [go_sem])).mono ?_
  rintro e w' ⟨rfl, n1, rfl⟩
  go_wp2
  go_ret
  exact ⟨rfl, below_draws (by repeat (first | exact Below.refl _ _ | refine Below.alloc ?_ (by simp <;> omega) _)) _⟩
theorem id_back (id cl : Int) (h1 : -9223372036854775808 ≤ cl) (h2 : cl ≤ 9223372036854775807) : (wrap64 (wrap64 (id + cl) - id) == cl) = true := by
  rw [beq_iff_eq]; unfold wrap64; omega
theorem law_any (ok : Bool) (a1 : -9223372036854775808 ≤ at0) (b1 : -9223372036854775808 ≤ ca) (b2 : ca ≤ 9223372036854775807) (d1 : -9223372036854775808 ≤ cl) (d2 : cl ≤ 9223372036854775807) :
    Calls Try.prog 3 #[.agg #[.int .i64 n, .int .i64 cl, .int .i64 id, .int .i64 iss], .agg #[.int .i64 c0, .int .u8 kd, .string k, .string v, .bool nl, .int .i64 ca, .int .i64 r0, .bool un], .int .i64 at0, .bool ok] w fun e w' => e = .returned (.bool true) ∧ Below w.heap.size w w' := by
  cases hf : fits k v with
  | false => exact law_big n cl id iss c0 r0 kd k v nl un ca at0 w ok hf
  | true =>
    have hh := hf
    simp only [fits, Bool.and_eq_true, decide_eq_true_eq] at hh
    obtain ⟨⟨h1, h2⟩, h3⟩ := hh
    cases ok with
    | false =>
      cases hk : (kd == 1) with
      | true => exact law_read n cl id iss c0 r0 kd k v nl un ca at0 w hf h1 h2 h3 hk
      | false => exact law_fail n cl id iss c0 r0 kd k v nl un ca at0 w hf h1 h2 h3 hk (id_back id cl d1 d2)
    | true =>
      have hw : ca < 9223372036854775807 ∧ wrap64 (ca + 1) = ca + 1 ∨ ca = 9223372036854775807 ∧ wrap64 (ca + 1) = -9223372036854775808 := by unfold wrap64; omega
      by_cases hlt : at0 < wrap64 (ca + 1)
      · exact law_ok1 n cl id iss c0 r0 kd k v nl un ca at0 w hf h1 h2 h3 hlt (by omega) (by omega)
      · by_cases g1 : at0 ≤ ca
        · exact law_ok2 n cl id iss c0 r0 kd k v nl un ca at0 w hf h1 h2 h3 (by omega) g1 (by omega)
        · exact law_ok3 n cl id iss c0 r0 kd k v nl un ca at0 w hf h1 h2 h3 (by omega) g1
end
end Go.Proofs.Qxb6604035a
