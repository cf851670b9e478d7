/-
  FnBreakLengthIsLongestBreak (3), walked out of the contracts.
-/
import Derived.Test.Qxb6605160aBreakWalks
namespace Go.Proofs.Qxb6605160a
open Go.RowKit
set_option maxHeartbeats 400000 in
theorem bytes5_any (a : Option Addr) (len cap : Nat) (hm : len ≤ 9223372036854775807) (w : World) :
    Calls Try.prog 5 #[.slice a len cap] w fun e w' => e = .returned (.bool (decide (len ≤ 1048576))) ∧ w = w' := by
  by_cases h : len ≤ 1048576
  · rw [show decide (len ≤ 1048576) = true from by simp [h]]
    go_enter Try.func5, Try.ntmps5
    go_wp2
    go_ret
    exact ⟨rfl, rfl⟩
  · rw [show decide (len ≤ 1048576) = false from by simp [h]]
    go_enter Try.func5, Try.ntmps5
    go_wp2
    go_ret
    exact ⟨rfl, rfl⟩
set_option maxHeartbeats 400000 in
theorem law_long (a : Option Addr) (len cap : Nat) (hm : len ≤ 9223372036854775807) (h : ¬ len ≤ 1048576) (w : World) :
    Calls Try.prog 3 #[.slice a len cap] w fun e w' => e = .returned (.bool true) ∧ Below w.heap.size w w' := by
  have hd : decide (len ≤ 1048576) = false := by simp [h]
  have HC := fun wx => bytes5_any a len cap hm wx
  rw [hd] at HC
  have HH : Hid (∀ wx : World, Calls Try.prog 5 #[.slice a len cap] wx fun e w' => e = .returned (.bool false) ∧ wx = w') := HC
  clear HC
  go_enter Try.func3, Try.ntmps3
  go_wp2_with fail
  refine (HH.out _).mono ?_
  rintro e w' ⟨rfl, rfl⟩
  go_wp2
  go_ret
  exact ⟨rfl, Below.refl _ _⟩
set_option maxHeartbeats 400000 in
theorem law_none (a : Option Addr) (cap : Nat) (w : World) :
    Calls Try.prog 3 #[.slice a 0 cap] w fun e w' => e = .returned (.bool true) ∧ Below w.heap.size w w' := by
  go_enter Try.func3, Try.ntmps3
  go_wp2_with (go_at_call 5; refine (bytes5_any _ _ _ (by omega) _).mono ?_; rintro e w' ⟨rfl, rfl⟩)
  go_ret
  exact ⟨rfl, Below.refl _ _⟩
/-- what is so at the head of the copying loop -/
def Copied (w : World) (zs : List Int) (k : Nat) (wr : World) : Prop :=
  Below w.heap.size w wr ∧ w.heap.size < wr.heap.size ∧ (∀ j, j < zs.length → ∃ v, wr.cell? ⟨w.heap.size, j, none⟩ = some v) ∧ (∀ j, wr.frozen? ⟨w.heap.size, j, none⟩ = false) ∧ ∀ j, j < k → wr.cell? ⟨w.heap.size, j, none⟩ = some (.int .u8 (zs.getD j 0))
theorem Copied.start (w : World) (zs : List Int) : Copied w zs 0 (w.alloc (.cells (madeCells #[.int .u8 0] zs.length) 5)) := by
  refine ⟨(Below.refl _ _).alloc (Nat.le_refl _) _, by simp, fun j hj => ⟨.int .u8 0, ?_⟩, fun j => ?_, fun j hj => by omega⟩
  · rw [World.cell?_alloc_new]; simp [madeCells, hj, Nat.mod_one]
  · have e : (w.alloc (.cells (madeCells #[.int .u8 0] zs.length) 5)).heap[w.heap.size]? = some (.cells (madeCells #[.int .u8 0] zs.length) 5) := (MapKept.heap_alloc w _).1
    unfold World.frozen?
    rw [e]
    simp
theorem Copied.step {w wr : World} {zs : List Int} {k : Nat} (h : Copied w zs k wr) (hk : k < zs.length) (z : Int) (hz : z = zs.getD k 0) : Copied w zs (k + 1) (wr.setCell ⟨w.heap.size, k, none⟩ (.int .u8 z)) := by
  obtain ⟨hB, hs, hv, hf, hj⟩ := h
  subst hz
  refine ⟨hB.setCell (Nat.le_refl _) _, by simpa using hs, fun j hjz => ?_, fun j => by rw [World.frozen?_setCell]; exact hf j, fun j hjk => ?_⟩
  · obtain ⟨v, e⟩ := hv j hjz
    exact cell?_setCell_some e
  · by_cases e : j = k
    · subst e
      obtain ⟨v, e⟩ := hv j hk
      exact World.cell?_setCell_same _ _ _ e
    · rw [World.cell?_setCell_other _ _ _ _ (fun h => e (congrArg Addr.off h).symm)]
      exact hj j (by omega)
theorem Try.info5 : (Try.prog.info? 5).map (fun i => (i.zero, i.size, i.bytes)) = some (some (.int .u8 0), 1, 1) := by kernel_rfl
set_option maxHeartbeats 400000 in
theorem law_some (b off cap : Nat) (zs : List Int) (hz : 0 < zs.length) (hm : zs.length ≤ 1048576) (w : World) (hc : ∀ j, j < zs.length → w.cell? ⟨b, off + j, none⟩ = some (.int .u8 (zs.getD j 0))) (hb : b < w.heap.size) :
    Calls Try.prog 3 #[.slice (some ⟨b, off, none⟩) zs.length cap] w fun e w' => e = .returned (.bool true) ∧ Below w.heap.size w w' := by
  have hmk := run_make_row' (P := Try.prog) 22 5 (.int .u8 0) 1 Try.underlying22 Try.info5 rfl .i64 .i64 zs.length (by omega) (by omega)
  have hd : decide (zs.length ≤ 1048576) = true := by simp [hm]
  have h0 : (((zs.length : Nat) : Int) == 0) = false := by rw [beq_eq_false_iff_ne]; omega
  go_enter Try.func3, Try.ntmps3
  go_wp2_with (go_at_call 5; refine (bytes5_any _ _ _ (by omega) _).mono ?_; rintro e w' ⟨rfl, rfl⟩)
  go_loopw [4] (fun i wr => ∃ k : Nat, k ≤ zs.length ∧ i = .int .i64 k ∧ Copied w zs k wr) (fun i _ => zs.length - (intOf i).toNat)
  case atStart => exact ⟨0, Nat.zero_le _, rfl, Copied.start w zs⟩
  case round =>
    obtain ⟨k, hk, rfl, hI⟩ := hrel
    have HI : Hid (Copied w zs k wr) := hI
    obtain ⟨hB, hs, hv, hf, hj⟩ := hI
    by_cases hlt : k < zs.length
    · have g1 := hc k hlt
      have g2 : wr.cell? ⟨b, off + k, none⟩ = some (.int .u8 (zs.getD k 0)) := (hB.cell hb).trans g1
      obtain ⟨v, g3⟩ := hv k hlt
      have g4 := hf k
      have hki : (k : Int) < (zs.length : Int) := by omega
      clear hv hf hj g1 hc
      go_wp2
      go_roundw
      case rel => exact ⟨k + 1, by omega, by go_num, HI.out.step hlt _ (by simp [hlt])⟩
      case measure => simp [intOf]; omega
    · have ek : k = zs.length := by omega
      have hr : Row wr w.heap.size zs := fun j h => hj j (by omega)
      have HR : Hid (Row wr w.heap.size zs) := hr
      have HE : Hid (((best zs 6 : Nat) : Int) = bl zs) := best_bl zs hz
      have H6 : Hid (∀ (wx : World) (cap : Nat), Row wx w.heap.size zs → Calls Try.prog 6 #[.slice (some ⟨w.heap.size, 0, none⟩) zs.length cap] wx fun e w' => e = .returned (.int .i64 (bl zs)) ∧ w' = wx) := fun wx cap hrx => zzbreak_any w.heap.size zs hz hm wx hrx cap
      have H7 : Hid (∀ (wx : World) (cap : Nat), Row wx w.heap.size zs → Calls Try.prog 7 #[.slice (some ⟨w.heap.size, 0, none⟩) zs.length cap] wx fun e w' => e = .returned (.int .i64 (best zs 6 : Nat)) ∧ ∃ n, w' = wx.drewN n) := fun wx cap hrx => longest_any w.heap.size zs hm wx hrx cap
      rw [HE.out] at H7
      generalize bl zs = q at *
      clear hv hf hj hc hr HE ek
      go_wp2_with fail
      refine (H6.out _ _ HR.out).mono ?_
      rintro e w' ⟨rfl, rfl⟩
      go_wp2_with fail
      refine (H7.out _ _ HR.out).mono ?_
      rintro e w' ⟨rfl, n, rfl⟩
      go_wp2
      go_ret
      exact ⟨by simp, hB.trans ⟨rfl, rfl, rfl, Nat.le_refl _, fun _ _ => rfl⟩⟩
end Go.Proofs.Qxb6605160a
