/-
  The contracts of ZZNewClient (6), (*Client).End at a failed write or delete (7), ZZClientFields (9).
-/
import Derived.Test.Qxb6604035aRows
import Derived.WalkKit
import Derived.WalkSpells
import Derived.BigQuiet
import Derived.Deep.QuietTactic
import Derived.BigRegion
namespace Go.Proofs.Qxb6604035a
open Go.RowKit
theorem below_draws {B : Nat} {a w : World} (h : Below B a w) (n : Nat) : Below B a (w.drewN n) := h.trans ⟨rfl, rfl, rfl, Nat.le_refl _, fun _ _ => rfl⟩
set_option maxHeartbeats 400000 in
theorem new_any (a b c d : Int) (w : World) :
    Calls Try.prog 6 #[.int .i64 a, .int .i64 b, .int .i64 c, .int .i64 d] w fun e w' => e = .returned (.pointer (some ⟨w.heap.size, 0, none⟩)) ∧ w' = w.alloc (.cells #[.int .i64 a, .int .i64 b, .int .i64 c, .int .i64 d] 40) := by
  go_enter Try.func6, Try.ntmps6
  go_wp2
  go_ret
  exact ⟨rfl, rfl⟩
set_option maxHeartbeats 400000 in
theorem fields_any (blk : Nat) (a b c d : Int) (w : World) (h0 : w.cell? ⟨blk, 0, none⟩ = some (.int .i64 a)) (h1 : w.cell? ⟨blk, 1, none⟩ = some (.int .i64 b)) (h2 : w.cell? ⟨blk, 2, none⟩ = some (.int .i64 c)) (h3 : w.cell? ⟨blk, 3, none⟩ = some (.int .i64 d)) :
    Calls Try.prog 9 #[.pointer (some ⟨blk, 0, none⟩)] w fun e w' => e = .returned (.tuple #[.int .i64 a, .int .i64 b, .int .i64 c, .int .i64 d]) ∧ ∃ n, w' = w.drewN n := by
  go_enter Try.func9, Try.ntmps9
  go_wp2
  go_quiet (fail)
  go_wp2
  exact bodyPost_ret (v := .tuple #[.int .i64 a, .int .i64 b, .int .i64 c, .int .i64 d]) (by simp [results, Try.results9, go_sem]) rfl ⟨rfl, _, rfl⟩
set_option maxHeartbeats 400000 in
theorem end_fail (blk : Nat) (cl id c0 r0 : Int) (kd : Int) (k v : ByteArray) (nl un : Bool) (at0 ca : Int) (w : World) (h1 : w.cell? ⟨blk, 1, none⟩ = some (.int .i64 cl)) (h2 : w.cell? ⟨blk, 2, none⟩ = some (.int .i64 id)) (hf : w.frozen? ⟨blk, 2, none⟩ = false) (hb : blk < w.heap.size) (hk : (kd == 1) = false) :
    Calls Try.prog 7 #[.pointer (some ⟨blk, 0, none⟩), .agg #[.int .i64 c0, .int .u8 kd, .string k, .string v, .bool nl, .int .i64 ca, .int .i64 r0, .bool un], .int .i64 at0, .bool false] w fun e w' => e = .returned (.tuple #[.agg #[.int .i64 c0, .int .u8 kd, .string k, .string v, .bool nl, .int .i64 ca, .int .i64 0, .bool true], .bool true]) ∧
      w' = (((w.setCell ⟨blk, 2, none⟩ (.int .i64 (wrap64 (id + cl)))).alloc (.cells #[.int .i64 c0, .int .u8 kd, .string k, .string v, .bool nl, .int .i64 ca, .int .i64 0, .bool true] 31)).alloc (.cells #[.int .i64 c0, .int .u8 kd, .string k, .string v, .bool nl, .int .i64 ca, .int .i64 0, .bool true] 31)).drew := by
  go_enter Try.func7, Try.ntmps7
  go_wp2
  go_region
  all_goals go_wp2
  exact bodyPost_ret (v := .tuple #[.agg #[.int .i64 c0, .int .u8 kd, .string k, .string v, .bool nl, .int .i64 ca, .int .i64 0, .bool true], .bool true]) (by simp [results, Try.results7, go_sem]) rfl ⟨rfl, rfl⟩
end Go.Proofs.Qxb6604035a
