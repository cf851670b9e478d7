import Derived.Test.Qxb6604035aRows
import Derived.WalkKit
import Derived.WalkSpells
import Derived.BigQuiet
import Derived.Deep.QuietTactic
import Derived.BigRegion
import Derived.Test.Qxb6604035aEndWalks
namespace Go.Proofs.Qxb6604035a
open Go.RowKit
set_option maxHeartbeats 400000 in
theorem end_ok1 (blk : Nat) (c0 r0 : Int) (kd : Int) (k v : ByteArray) (nl un : Bool) (at0 ca : Int) (w : World) (hlt : at0 < wrap64 (ca + 1)) :
    Calls Try.prog 7 #[.pointer (some ⟨blk, 0, none⟩), .agg #[.int .i64 c0, .int .u8 kd, .string k, .string v, .bool nl, .int .i64 ca, .int .i64 r0, .bool un], .int .i64 at0, .bool true] w fun e w' => e = .returned (.tuple #[.agg #[.int .i64 c0, .int .u8 kd, .string k, .string v, .bool nl, .int .i64 ca, .int .i64 (wrap64 (ca + 1)), .bool un], .bool true]) ∧
      w' = ((w.alloc (.cells #[.int .i64 c0, .int .u8 kd, .string k, .string v, .bool nl, .int .i64 ca, .int .i64 (wrap64 (ca + 1)), .bool un] 31)).alloc (.cells #[.int .i64 c0, .int .u8 kd, .string k, .string v, .bool nl, .int .i64 ca, .int .i64 (wrap64 (ca + 1)), .bool un] 31)) := by
  go_enter Try.func7, Try.ntmps7
  go_wp2
  exact bodyPost_ret (v := .tuple #[.agg #[.int .i64 c0, .int .u8 kd, .string k, .string v, .bool nl, .int .i64 ca, .int .i64 (wrap64 (ca + 1)), .bool un], .bool true]) (by simp [results, Try.results7, go_sem]) rfl ⟨rfl, rfl⟩
set_option maxHeartbeats 400000 in
theorem end_ok2 (blk : Nat) (c0 r0 : Int) (kd : Int) (k v : ByteArray) (nl un : Bool) (at0 ca : Int) (w : World) (hlt : ¬ at0 < wrap64 (ca + 1)) :
    Calls Try.prog 7 #[.pointer (some ⟨blk, 0, none⟩), .agg #[.int .i64 c0, .int .u8 kd, .string k, .string v, .bool nl, .int .i64 ca, .int .i64 r0, .bool un], .int .i64 at0, .bool true] w fun e w' => e = .returned (.tuple #[.agg #[.int .i64 c0, .int .u8 kd, .string k, .string v, .bool nl, .int .i64 ca, .int .i64 at0, .bool un], .bool true]) ∧
      w' = ((w.alloc (.cells #[.int .i64 c0, .int .u8 kd, .string k, .string v, .bool nl, .int .i64 ca, .int .i64 at0, .bool un] 31)).alloc (.cells #[.int .i64 c0, .int .u8 kd, .string k, .string v, .bool nl, .int .i64 ca, .int .i64 at0, .bool un] 31)) := by
  go_enter Try.func7, Try.ntmps7
  go_wp2
  exact bodyPost_ret (v := .tuple #[.agg #[.int .i64 c0, .int .u8 kd, .string k, .string v, .bool nl, .int .i64 ca, .int .i64 at0, .bool un], .bool true]) (by simp [results, Try.results7, go_sem]) rfl ⟨rfl, rfl⟩
set_option maxHeartbeats 400000 in
theorem end_read (blk : Nat) (c0 r0 : Int) (kd : Int) (k v : ByteArray) (nl un : Bool) (at0 ca : Int) (w : World) (hk : (kd == 1) = true) :
    Calls Try.prog 7 #[.pointer (some ⟨blk, 0, none⟩), .agg #[.int .i64 c0, .int .u8 kd, .string k, .string v, .bool nl, .int .i64 ca, .int .i64 r0, .bool un], .int .i64 at0, .bool false] w fun e w' => e = .returned (.tuple #[.agg #[.int .i64 c0, .int .u8 kd, .string k, .string v, .bool nl, .int .i64 ca, .int .i64 r0, .bool un], .bool false]) ∧
      w' = ((w.alloc (.cells #[.int .i64 c0, .int .u8 kd, .string k, .string v, .bool nl, .int .i64 ca, .int .i64 r0, .bool un] 31)).alloc (.cells #[.int .i64 c0, .int .u8 kd, .string k, .string v, .bool nl, .int .i64 ca, .int .i64 r0, .bool un] 31)) := by
  go_enter Try.func7, Try.ntmps7
  go_wp2
  exact bodyPost_ret (v := .tuple #[.agg #[.int .i64 c0, .int .u8 kd, .string k, .string v, .bool nl, .int .i64 ca, .int .i64 r0, .bool un], .bool false]) (by simp [results, Try.results7, go_sem]) rfl ⟨rfl, rfl⟩
set_option maxHeartbeats 400000 in
theorem oper_any (c0 r0 : Int) (kd : Int) (k v : ByteArray) (nl un : Bool) (ca : Int) (w : World) :
    Calls Try.prog 8 #[.agg #[.int .i64 c0, .int .u8 kd, .string k, .string v, .bool nl, .int .i64 ca, .int .i64 r0, .bool un]] w fun e w' => e = .returned (.agg #[.int .i64 c0, .int .u8 kd, .string k, .string v, .bool nl, .int .i64 ca, .int .i64 r0, .bool un]) ∧
      w' = ((w.alloc (.cells #[.int .i64 c0, .int .u8 kd, .string k, .string v, .bool nl, .int .i64 ca, .int .i64 r0, .bool un] 25)).alloc (.cells #[.int .i64 c0, .int .u8 kd, .string k, .string v, .bool nl, .int .i64 ca, .int .i64 r0, .bool un] 31)) := by
  go_enter Try.func8, Try.ntmps8
  go_wp2
  exact bodyPost_ret (v := .agg #[.int .i64 c0, .int .u8 kd, .string k, .string v, .bool nl, .int .i64 ca, .int .i64 r0, .bool un]) (by simp [results, Try.results8, go_sem]) rfl ⟨rfl, rfl⟩
/-- the bound that the law lays on its strings -/
def fits (k v : ByteArray) : Bool := decide (k.size ≤ 1048576) && decide (v.size ≤ 1048576) && decide (k.size + v.size ≤ 1048576)
set_option maxHeartbeats 400000 in
theorem bytes_any (n cl id iss : Int) (c0 r0 : Int) (kd : Int) (k v : ByteArray) (nl un : Bool) (ca at0 : Int) (ok : Bool) (w : World) :
    Calls Try.prog 5 #[.agg #[.int .i64 n, .int .i64 cl, .int .i64 id, .int .i64 iss], .agg #[.int .i64 c0, .int .u8 kd, .string k, .string v, .bool nl, .int .i64 ca, .int .i64 r0, .bool un], .int .i64 at0, .bool ok] w fun e w' => e = .returned (.bool (fits k v)) ∧
      w' = (w.alloc (.cells #[.int .i64 n, .int .i64 cl, .int .i64 id, .int .i64 iss] 23)).alloc (.cells #[.int .i64 c0, .int .u8 kd, .string k, .string v, .bool nl, .int .i64 ca, .int .i64 r0, .bool un] 25) := by
  by_cases h1 : k.size ≤ 1048576
  · by_cases h2 : v.size ≤ 1048576
    · by_cases h3 : k.size + v.size ≤ 1048576
      · have e : fits k v = true := by simp [fits, *]
        rw [e]; clear e
        go_enter Try.func5, Try.ntmps5
        go_wp2
        go_ret
        exact ⟨rfl, rfl⟩
      · have e : fits k v = false := by simp [fits, *]
        rw [e]; clear e
        go_enter Try.func5, Try.ntmps5
        go_wp2
        go_ret
        exact ⟨rfl, rfl⟩
    · have e : fits k v = false := by simp [fits, *]
      rw [e]; clear e
      go_enter Try.func5, Try.ntmps5
      go_wp2
      go_ret
      exact ⟨rfl, rfl⟩
  · have e : fits k v = false := by simp [fits, *]
    rw [e]; clear e
    go_enter Try.func5, Try.ntmps5
    go_wp2
    go_ret
    exact ⟨rfl, rfl⟩
end Go.Proofs.Qxb6604035a
