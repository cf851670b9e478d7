/-
  zzBytes_FnMemberNamesAddReportsLastEarlierValue (21).
-/
import Derived.Test.Qxb6605406aClone
namespace Go.Proofs.Qxb6605406a
open Go.RowKit
set_option maxRecDepth 100000 in
set_option maxHeartbeats 1000000 in
theorem bytes21 (w : World) (b off len cap : Nat) (nm : Nat → ByteArray) (vs : Nat → Option Addr) (vl vc : Nat → Nat) (hn : len ≤ 9223372036854775807)
    (h0 : ∀ i, i < len → w.cell? ⟨b, off + i * 4, none⟩ = some (.string (nm i))) (h3 : ∀ i, i < len → w.cell? ⟨b, off + i * 4 + 3, none⟩ = some (.slice (vs i) (vl i) (vc i))) (hz : ∀ i, i < len → (nm i).size ≤ 9223372036854775807 ∧ vl i ≤ 9223372036854775807) :
    Calls Try.prog 21 #[.slice (some ⟨b, off, none⟩) len cap] w fun e w' => ∃ r : Bool, e = .returned (.bool r) ∧ ∃ n, w' = w.drewN n := by
  by_cases hlen : len ≤ 1048576
  · have H0 : Hid (∀ i, i < len → w.cell? ⟨b, off + i * 4, none⟩ = some (.string (nm i))) := h0
    have H3 : Hid (∀ i, i < len → w.cell? ⟨b, off + i * 4 + 3, none⟩ = some (.slice (vs i) (vl i) (vc i))) := h3
    have HZ : Hid (∀ i, i < len → (nm i).size ≤ 9223372036854775807 ∧ vl i ≤ 9223372036854775807) := hz
    clear h0 h3 hz
    go_enter Try.func21, Try.ntmps21
    go_wp2
    go_loopw [3, 4] (fun t i wr => ∃ (k n tt : Nat), k ≤ len ∧ tt ≤ 1048576 ∧ t = .int .i64 tt ∧ i = .int .i64 k ∧ wr = w.drewN n) (fun _ i _ => len - (intOf i).toNat)
    case atStart => exact ⟨0, 0, len, Nat.zero_le _, hlen, rfl, rfl, rfl⟩
    case round =>
      obtain ⟨k, n, tt, hk, htt, rfl, rfl, rfl⟩ := hrel
      by_cases hlt : k < len
      · have c0 := H0.out k hlt
        have c3 := H3.out k hlt
        obtain ⟨z1, z2⟩ := HZ.out k hlt
        have hki : (k : Int) < (len : Int) := by omega
        generalize nm k = N at *
        generalize vs k = V at *
        generalize vl k = L at *
        generalize vc k = C at *
        by_cases q1 : N.size ≤ 1048576
        · by_cases q2 : tt + N.size ≤ 1048576
          · by_cases q3 : L ≤ 1048576
            · by_cases q4 : tt + N.size + L ≤ 1048576
              · go_wp2
                go_roundw
                case rel => exact ⟨k + 1, n, tt + N.size + L, by omega, q4, by go_num, by go_num, rfl⟩
                case measure => simp [intOf]; omega
              · go_wp2
                go_ret
                exact ⟨_, rfl, n, rfl⟩
            · go_wp2
              go_ret
              exact ⟨_, rfl, n, rfl⟩
          · go_wp2
            go_ret
            exact ⟨_, rfl, n, rfl⟩
        · go_wp2
          go_ret
          exact ⟨_, rfl, n, rfl⟩
      · go_wp2
        go_ret
        exact ⟨_, rfl, n, rfl⟩
  · clear h0 h3 hz
    go_enter Try.func21, Try.ntmps21
    go_wp2
    go_ret
    exact ⟨_, rfl, 0, rfl⟩
end Go.Proofs.Qxb6605406a
