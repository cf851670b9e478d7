/-
  ZZAdd (23) and zzCloneBytes (15).
-/
import Derived.Test.Qxb6605406aRep
import Derived.Deep.OwnRows
namespace Go.Proofs.Qxb6605406a
open Go.RowKit
set_option maxHeartbeats 400000 in
theorem zzadd_any (N c : Nat) (g : ByteArray → Option Int) (s : ByteArray) (na va : Int) (vv : Option Addr) (vl vc : Nat) (w : World) (h : Rep w N c g) (hc : c ≤ 100000) (hs : s.size ≤ maxLen) (hwf : (Lit.int .i64 va).wf = true) :
    Calls Try.prog 23 #[.pointer (some ⟨N, 0, none⟩), .string s, .int .i64 na, .int .i64 va, .slice vv vl vc] w fun e w' => e = .returned (.tuple #[.int .i64 ((g s).getD 0), .bool (g s).isSome]) ∧ Rep w' N (c + 1) (upd g s va) ∧ Below N w w' := by
  have H := add_any N c g s na va vv vl vc w h hc hs hwf
  generalize hr1 : (g s).getD 0 = r1 at *
  generalize hr2 : (g s).isSome = r2 at *
  have HH : Hid (Calls Try.prog 26 #[.pointer (some ⟨N, 0, none⟩), .agg #[.string s, .int .i64 na, .int .i64 va, .slice vv vl vc]] w fun e w' => e = .returned (.tuple #[.int .i64 r1, .bool r2]) ∧ Rep w' N (c + 1) (upd g s va) ∧ Below N w w') := H
  clear H h hs hwf hr1 hr2
  go_enter Try.func23, Try.ntmps23
  go_wp2_with fail
  refine HH.out.mono ?_
  rintro e w1 ⟨rfl, hR, hB⟩
  go_wp2
  go_ret2
  exact ⟨rfl, hR, hB⟩
/-! a slice of bytes, copied -/
theorem Try.info5 : (Try.prog.info? 5).map (fun i => (i.zero, i.size, i.bytes)) = some (some (.int .u8 0), 1, 1) := by kernel_rfl
/-- a slice of bytes that can be read up to its length -/
def ByteRow (w : World) (vs : Option Addr) (vl : Nat) : Prop := (vs = none ∧ vl = 0) ∨ ∃ x, vs = some x ∧ ∃ f : Nat → Int, ∀ j, j < vl → w.cell? (x.add j) = some (.int .u8 (f j))
theorem cell_lt {w : World} {a : Addr} {v : Value} (h : w.cell? a = some v) : a.block < w.heap.size := by
  rcases Nat.lt_or_ge a.block w.heap.size with h' | h'
  · exact h'
  · unfold World.cell? at h
    rw [Array.getElem?_eq_none h'] at h
    simp at h
/-- a new row of n cells at G, whatever they hold -/
def Room (w : World) (G n : Nat) (wr : World) : Prop :=
  Below w.heap.size w wr ∧ w.heap.size ≤ G ∧ G < wr.heap.size ∧ (∀ j, j < n → ∃ v, wr.cell? ⟨G, j, none⟩ = some v) ∧ (∀ j, wr.frozen? ⟨G, j, none⟩ = false)
theorem Room.start (w : World) (cs : Array Value) (t : TypeId) : Room w w.heap.size cs.size (w.alloc (.cells cs t)) := by
  refine ⟨(Below.refl _ _).alloc (Nat.le_refl _) _, Nat.le_refl _, by simp, fun j hj => ⟨cs[j], ?_⟩, fun j => ?_⟩
  · rw [World.cell?_alloc_new]; simp [hj]
  · have e : (w.alloc (.cells cs t)).heap[w.heap.size]? = some (.cells cs t) := (MapKept.heap_alloc w _).1
    unfold World.frozen?
    rw [e]
    simp
theorem Room.set {w wr : World} {G n : Nat} (h : Room w G n wr) (j : Nat) (v : Value) : Room w G n (wr.setCell ⟨G, j, none⟩ v) := by
  obtain ⟨hB, hG, hs, hv, hf⟩ := h
  refine ⟨hB.setCell hG _, hG, by simpa using hs, fun i hi => ?_, fun i => by rw [World.frozen?_setCell]; exact hf i⟩
  obtain ⟨u, e⟩ := hv i hi
  exact cell?_setCell_some e
set_option maxHeartbeats 400000 in
theorem clone_nil (w : World) (vl vc : Nat) : Calls Try.prog 15 #[.slice none vl vc] w fun e w' => e = .returned (.slice none 0 0) ∧ w = w' := by
  have heq := fun wx => Lib.run_eql_slice_nil (P := Try.prog) wx 25 5 none vl vc 0 0 Try.underlying25
  go_enter Try.func15, Try.ntmps15
  go_wp2
  go_ret
  exact ⟨rfl, rfl⟩
set_option maxHeartbeats 400000 in
theorem clone_some (w : World) (x : Addr) (vl vc : Nat) (hl : vl ≤ 1048576) (f : Nat → Int) (hf : ∀ j, j < vl → w.cell? (x.add j) = some (.int .u8 (f j))) :
    Calls Try.prog 15 #[.slice (some x) vl vc] w fun e w' => e = .returned (.slice (some ⟨w.heap.size, 0, none⟩) vl vl) ∧ Below w.heap.size w w' := by
  have heq := fun wx => Lib.run_eql_slice_nil (P := Try.prog) wx 25 5 (some x) vl vc 0 0 Try.underlying25
  have hmk := run_make_row' (P := Try.prog) 25 5 (.int .u8 0) 1 Try.underlying25 Try.info5 rfl .i64 .i64 vl (by omega) (by omega)
  have HF : Hid (∀ j, j < vl → w.cell? (x.add j) = some (.int .u8 (f j))) := hf
  clear hf
  go_enter Try.func15, Try.ntmps15
  go_wp2
  go_loopw [4] (fun i wr => ∃ k : Nat, k ≤ vl ∧ i = .int .i64 k ∧ Room w w.heap.size vl wr) (fun i _ => vl - (intOf i).toNat)
  case atStart =>
    refine ⟨0, Nat.zero_le _, rfl, ?_⟩
    have h := Room.start w (madeCells #[.int .u8 0] vl) 5
    rwa [size_madeCells] at h
  case round =>
    obtain ⟨k, hk, rfl, hR⟩ := hrel
    have HR : Hid (Room w w.heap.size vl wr) := hR
    have hB := hR.1
    by_cases hlt : k < vl
    · have h0 := HF.out 0 (by omega)
      obtain ⟨xb, xo, xs⟩ := x
      have hspot : xs = none := by simpa [Addr.add] using World.cell?_spot h0
      subst hspot
      have hxb : xb < w.heap.size := cell_lt h0
      have g1 := HF.out k hlt
      rw [Go.WideShapes.add_plain] at g1
      have g2 : wr.cell? ⟨xb, xo + k, none⟩ = some (.int .u8 (f k)) := (hB.cell hxb).trans g1
      obtain ⟨v, g3⟩ := hR.2.2.2.1 k hlt
      have g4 := hR.2.2.2.2 k
      have hki : (k : Int) < (vl : Int) := by omega
      clear hmk heq g1 h0 hR hB HF
      go_wp2
      go_roundw
      case rel => exact ⟨k + 1, by omega, by go_num, HR.out.set _ _⟩
      case measure => simp [intOf]; omega
    · clear hmk heq HF
      go_wp2
      go_ret
      exact ⟨rfl, hB⟩
theorem clone_any (w : World) (vs : Option Addr) (vl vc : Nat) (hl : vl ≤ 1048576) (h : ByteRow w vs vl) :
    Calls Try.prog 15 #[.slice vs vl vc] w fun e w' => ∃ a n c, e = .returned (.slice a n c) ∧ Below w.heap.size w w' := by
  rcases h with ⟨rfl, rfl⟩ | ⟨x, rfl, f, hf⟩
  · exact (clone_nil w 0 vc).mono fun e w' ⟨he, hw⟩ => ⟨none, 0, 0, he, hw ▸ Below.refl _ _⟩
  · exact (clone_some w x vl vc hl f hf).mono fun e w' ⟨he, hw⟩ => ⟨_, _, _, he, hw⟩
end Go.Proofs.Qxb6605406a
