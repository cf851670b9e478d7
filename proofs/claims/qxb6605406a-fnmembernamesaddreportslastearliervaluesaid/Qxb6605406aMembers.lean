/-
  zzCloneMembers (22).
-/
import Derived.Test.Qxb6605406aClone
import Derived.Deep.RegionHeld
namespace Go.Proofs.Qxb6605406a
open Go.RowKit
theorem Try.info36 : (Try.prog.info? 36).map (fun i => (i.zero, i.size, i.bytes)) = some (some (.agg #[.string ⟨#[]⟩, .int .i64 0, .int .i64 0, .slice none 0 0]), 4, 56) := by kernel_rfl
theorem make33 (n : Nat) (hn : n ≤ 4096) (w : World) : (Instr.makeSlice 33 (.int .i64 (n : Int)) (.int .i64 (n : Int))).run Try.prog w = .ok (.slice (some ⟨w.heap.size, 0, none⟩) n n) (w.alloc (.cells (madeCells #[.string ⟨#[]⟩, .int .i64 0, .int .i64 0, .slice none 0 0] (n * 4)) 36)) := by
  obtain ⟨i0, hi, hz0, hz1, hz2⟩ := info_parts Try.info36
  have h := run_make (P := Try.prog) w 33 36 i0 _ Try.underlying33 hi hz0 .i64 .i64 (n : Int) (n : Int) (by omega) (Int.le_refl _) (by rw [hz2]; omega) (by omega)
  rw [h, hz1, Int.toNat_natCast]
  rfl
/-- one member as it lies in memory -/
structure Mem where
  name : ByteArray
  na : Int
  va : Int
  vs : Option Addr
  vl : Nat
  vc : Nat
def MemAt (w : World) (b o : Nat) (m : Mem) : Prop :=
  w.cell? ⟨b, o, none⟩ = some (.string m.name) ∧ w.cell? ⟨b, o + 1, none⟩ = some (.int .i64 m.na) ∧ w.cell? ⟨b, o + 2, none⟩ = some (.int .i64 m.va) ∧ w.cell? ⟨b, o + 3, none⟩ = some (.slice m.vs m.vl m.vc)
theorem ByteRow.below {w w' : World} {vs : Option Addr} {vl : Nat} (h : ByteRow w vs vl) (hB : Below w.heap.size w w') : ByteRow w' vs vl := by
  rcases h with h | ⟨x, rfl, f, hf⟩
  · exact .inl h
  · exact .inr ⟨x, rfl, f, fun j hj => (hB.cell (cell_lt (hf j hj))).trans (hf j hj)⟩
theorem MemAt.below {w w' : World} {B b o : Nat} {m : Mem} (h : MemAt w b o m) (hB : Below B w w') (hb : b < B) : MemAt w' b o m :=
  ⟨(hB.cell hb).trans h.1, (hB.cell hb).trans h.2.1, (hB.cell hb).trans h.2.2.1, (hB.cell hb).trans h.2.2.2⟩
theorem Room.below {w wr w1 : World} {G n : Nat} (h : Room w G n wr) (hB : Below wr.heap.size wr w1) : Room w G n w1 := by
  obtain ⟨h1, h2, h3, h4, h5⟩ := h
  refine ⟨h1.trans (hB.mono h1.size), h2, Nat.lt_of_lt_of_le h3 hB.size, fun j hj => ?_, fun j => (hB.frozen h3).trans (h5 j)⟩
  obtain ⟨v, e⟩ := h4 j hj
  exact ⟨v, (hB.cell h3).trans e⟩
/-- a member laid into a row: the four cells at o -/
def laid4 (w : World) (G o : Nat) (m : Mem) : World := (((w.setCell ⟨G, o, none⟩ (.string m.name)).setCell ⟨G, o + 1, none⟩ (.int .i64 m.na)).setCell ⟨G, o + 2, none⟩ (.int .i64 m.va)).setCell ⟨G, o + 3, none⟩ (.slice m.vs m.vl m.vc)
theorem memAt_laid {w : World} {G o : Nat} {m : Mem} {d0 d1 d2 d3 : Value} (e0 : w.cell? ⟨G, o, none⟩ = some d0) (e1 : w.cell? ⟨G, o + 1, none⟩ = some d1) (e2 : w.cell? ⟨G, o + 2, none⟩ = some d2) (e3 : w.cell? ⟨G, o + 3, none⟩ = some d3) : MemAt (laid4 w G o m) G o m := by
  unfold laid4
  refine ⟨?_, ?_, ?_, ?_⟩
  · rw [World.cell?_setCell_other _ _ _ _ (off_ne (by omega)), World.cell?_setCell_other _ _ _ _ (off_ne (by omega)), World.cell?_setCell_other _ _ _ _ (off_ne (by omega))]
    exact World.cell?_setCell_same _ _ _ e0
  · rw [World.cell?_setCell_other _ _ _ _ (off_ne (by omega)), World.cell?_setCell_other _ _ _ _ (off_ne (by omega))]
    exact World.cell?_setCell_same _ _ _ (u := d1) (by rw [World.cell?_setCell_other _ _ _ _ (off_ne (by omega))]; exact e1)
  · rw [World.cell?_setCell_other _ _ _ _ (off_ne (by omega))]
    exact World.cell?_setCell_same _ _ _ (u := d2) (by rw [World.cell?_setCell_other _ _ _ _ (off_ne (by omega)), World.cell?_setCell_other _ _ _ _ (off_ne (by omega))]; exact e2)
  · exact World.cell?_setCell_same _ _ _ (u := d3) (by rw [World.cell?_setCell_other _ _ _ _ (off_ne (by omega)), World.cell?_setCell_other _ _ _ _ (off_ne (by omega)), World.cell?_setCell_other _ _ _ _ (off_ne (by omega))]; exact e3)
theorem cell_laid {w : World} {G o i : Nat} {m : Mem} (h : i < o) : (laid4 w G o m).cell? ⟨G, i, none⟩ = w.cell? ⟨G, i, none⟩ := by
  unfold laid4
  rw [World.cell?_setCell_other _ _ _ _ (off_ne (by omega)), World.cell?_setCell_other _ _ _ _ (off_ne (by omega)), World.cell?_setCell_other _ _ _ _ (off_ne (by omega)), World.cell?_setCell_other _ _ _ _ (off_ne (by omega))]
theorem memAt_other {w : World} {G o i : Nat} {m m' : Mem} (h : i + 4 ≤ o) (hm : MemAt w G i m') : MemAt (laid4 w G o m) G i m' :=
  ⟨(cell_laid (by omega)).trans hm.1, (cell_laid (by omega)).trans hm.2.1, (cell_laid (by omega)).trans hm.2.2.1, (cell_laid (by omega)).trans hm.2.2.2⟩
theorem room_laid {w wr : World} {G n o : Nat} {m : Mem} (h : Room w G n wr) : Room w G n (laid4 wr G o m) := (((h.set _ _).set _ _).set _ _).set _ _
/-- the names and the values, whatever the texts -/
def Copy (wr : World) (G k : Nat) (M : Nat → Mem) : Prop := ∀ j, j < k → ∃ a n c, MemAt wr G (j * 4) { M j with vs := a, vl := n, vc := c }
theorem Copy.next {wr w1 : World} {G k : Nat} {M : Nat → Mem} (h : Copy wr G k M) (hB : Below wr.heap.size wr w1) (hG : G < wr.heap.size) {d0 d1 d2 d3 : Value} (e0 : w1.cell? ⟨G, k * 4, none⟩ = some d0) (e1 : w1.cell? ⟨G, k * 4 + 1, none⟩ = some d1) (e2 : w1.cell? ⟨G, k * 4 + 2, none⟩ = some d2) (e3 : w1.cell? ⟨G, k * 4 + 3, none⟩ = some d3)
    (a : Option Addr) (n c : Nat) : Copy (laid4 w1 G (k * 4) { M k with vs := a, vl := n, vc := c }) G (k + 1) M := fun j hj => by
  by_cases e : j = k
  · subst e
    exact ⟨a, n, c, memAt_laid e0 e1 e2 e3⟩
  · obtain ⟨a', n', c', hm⟩ := h j (by omega)
    exact ⟨a', n', c', memAt_other (by omega) (hm.below hB hG)⟩
theorem below_undrew {w w1 : World} (h : Below w.drew.heap.size w.drew w1) : Below w.heap.size w w1 := ⟨h.os, h.tape, h.output, h.size, h.block⟩
set_option maxRecDepth 100000 in
set_option maxHeartbeats 1000000 in
theorem members_some (w : World) (b off len cap : Nat) (M : Nat → Mem) (hn : len ≤ 4096) (hM : ∀ i, i < len → MemAt w b (off + i * 4) (M i) ∧ (M i).vl ≤ 1048576 ∧ ByteRow w (M i).vs (M i).vl) :
    Calls Try.prog 22 #[.slice (some ⟨b, off, none⟩) len cap] w fun e w' => e = .returned (.slice (some ⟨w.heap.size, 0, none⟩) len len) ∧ Below w.heap.size w w' ∧ w.heap.size < w'.heap.size ∧ Copy w' w.heap.size len M := by
  have heq := fun wx => Lib.run_eql_slice_nil (P := Try.prog) wx 33 36 (some ⟨b, off, none⟩) len cap 0 0 Try.underlying33
  have hmk := make33 len hn
  have HM : Hid (∀ i, i < len → MemAt w b (off + i * 4) (M i) ∧ (M i).vl ≤ 1048576 ∧ ByteRow w (M i).vs (M i).vl) := hM
  clear hM
  go_enter Try.func22, Try.ntmps22
  go_wp2
  go_loopw [4] (fun i wr => ∃ k : Nat, k ≤ len ∧ i = .int .i64 k ∧ Room w w.heap.size (len * 4) wr ∧ Copy wr w.heap.size k M) (fun i _ => len - (intOf i).toNat)
  case atStart =>
    refine ⟨0, Nat.zero_le _, rfl, ?_, fun j hj => by omega⟩
    have h := Room.start w (madeCells #[.string ⟨#[]⟩, .int .i64 0, .int .i64 0, .slice none 0 0] (len * 4)) 36
    rwa [size_madeCells] at h
  case round =>
    obtain ⟨k, hk, rfl, hR, hD⟩ := hrel
    have HD : Hid (Copy wr w.heap.size k M) := hD
    have HR : Hid (Room w w.heap.size (len * 4) wr) := hR
    have hB := hR.1
    clear heq hmk hD
    by_cases hlt : k < len
    · obtain ⟨hm, hvl, hrow⟩ := HM.out k hlt
      have hb : b < w.heap.size := cell_lt hm.1
      have hm' := hm.below hB hb
      have hrow' := hrow.below hB
      generalize hMk : M k = m at *
      obtain ⟨nm, na, va, vs, vl, vc⟩ := m
      have HMK : Hid (M k = ⟨nm, na, va, vs, vl, vc⟩) := hMk
      clear hMk
      obtain ⟨s0, s1, s2, s3⟩ := hm'
      have hki : (k : Int) < (len : Int) := by omega
      obtain ⟨d0, e0⟩ := hR.2.2.2.1 (k * 4) (by omega)
      obtain ⟨d1, e1⟩ := hR.2.2.2.1 (k * 4 + 1) (by omega)
      obtain ⟨d2, e2⟩ := hR.2.2.2.1 (k * 4 + 2) (by omega)
      obtain ⟨d3, e3⟩ := hR.2.2.2.1 (k * 4 + 3) (by omega)
      have f0 := hR.2.2.2.2 (k * 4)
      have f1 := hR.2.2.2.2 (k * 4 + 1)
      have f2 := hR.2.2.2.2 (k * 4 + 2)
      have f3 := hR.2.2.2.2 (k * 4 + 3)
      have hsz := hR.2.2.1
      have hbw : b < wr.heap.size := by omega
      have hne : ¬ w.heap.size = b := by omega
      have hne' : ¬ b = w.heap.size := by omega
      have HROW : Hid (ByteRow wr vs vl) := hrow'
      clear hrow' hrow hm hB
      go_wp2
      go_region_held (fun w' => w'.cell? ⟨b, off + k * 4, none⟩ = some (.string nm) ∧ w'.cell? ⟨b, off + k * 4 + 1, none⟩ = some (.int .i64 na) ∧ w'.cell? ⟨b, off + k * 4 + 2, none⟩ = some (.int .i64 va) ∧ w'.cell? ⟨b, off + k * 4 + 3, none⟩ = some (.slice vs vl vc)) (first | exact ⟨s0, s1, s2, s3⟩ | exact ⟨t0, t1, t2, t3⟩ | go_keep)
        (first | (go_at_call 15; go_must (refine (clone_any _ vs vl vc hvl (by exact HROW.out)).mono ?_); go_must (rintro e w1 ⟨a, n, c, rfl, hB1⟩); go_must (have hB2 : Below wr.heap.size wr w1 := below_undrew hB1); clear hB1; go_must (have t0 := (hB2.cell (p := ⟨b, off + k * 4, none⟩) hbw).trans s0; have t1 := (hB2.cell (p := ⟨b, off + k * 4 + 1, none⟩) hbw).trans s1; have t2 := (hB2.cell (p := ⟨b, off + k * 4 + 2, none⟩) hbw).trans s2; have t3 := (hB2.cell (p := ⟨b, off + k * 4 + 3, none⟩) hbw).trans s3); go_must (have u0 := (hB2.cell (p := ⟨w.heap.size, k * 4, none⟩) hsz).trans e0; have u1 := (hB2.cell (p := ⟨w.heap.size, k * 4 + 1, none⟩) hsz).trans e1; have u2 := (hB2.cell (p := ⟨w.heap.size, k * 4 + 2, none⟩) hsz).trans e2; have u3 := (hB2.cell (p := ⟨w.heap.size, k * 4 + 3, none⟩) hsz).trans e3); go_must (have g0 := (hB2.frozen (p := ⟨w.heap.size, k * 4, none⟩) hsz).trans f0; have g1 := (hB2.frozen (p := ⟨w.heap.size, k * 4 + 1, none⟩) hsz).trans f1; have g2 := (hB2.frozen (p := ⟨w.heap.size, k * 4 + 2, none⟩) hsz).trans f2; have g3 := (hB2.frozen (p := ⟨w.heap.size, k * 4 + 3, none⟩) hsz).trans f3); go_must (have hbw1 : b < w1.heap.size := Nat.lt_of_lt_of_le hbw hB2.size; have hsz1 : w.heap.size < w1.heap.size := Nat.lt_of_lt_of_le hsz hB2.size)))
      all_goals go_wp2
      go_roundw
      case rel =>
        refine ⟨k + 1, by omega, by go_num, room_laid (m := ⟨nm, na, va, a, n, c⟩) (HR.out.below hB2), ?_⟩
        have h := HD.out.next hB2 hsz u0 u1 u2 u3 a n c
        rw [HMK.out] at h
        exact h
      case measure => simp [intOf]; omega
    · have ek : k = len := by omega
      subst ek
      have hs1 := hR.2.2.1
      go_wp2
      go_ret
      exact ⟨rfl, hB, hs1, HD.out⟩
end Go.Proofs.Qxb6605406a
