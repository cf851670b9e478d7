/-
  (*memberNames).add (26), at the ninth name: the map is made out of the eight.
-/
import Derived.Test.Qxb6605406aMany
namespace Go.Proofs.Qxb6605406a
open Go.RowKit Go.Maps Go.WideMaps Go.WideElems
theorem make41 (w : World) : (Instr.makeMap 41 (some (.int .i64 16))).run Try.prog w = .ok (.map (some w.heap.size)) (w.alloc (.map #[] 0)) := by kernel_rfl
theorem index40 (a0 : ByteArray) (b0 : Int) (a1 : ByteArray) (b1 : Int) (a2 : ByteArray) (b2 : Int) (a3 : ByteArray) (b3 : Int) (a4 : ByteArray) (b4 : Int) (a5 : ByteArray) (b5 : Int) (a6 : ByteArray) (b6 : Int) (a7 : ByteArray) (b7 : Int) (k : Nat) (hk : k < 8) : ∃ x y, ([(a0, b0), (a1, b1), (a2, b2), (a3, b3), (a4, b4), (a5, b5), (a6, b6), (a7, b7)] : List (ByteArray × Int))[k]? = some (x, y) ∧ ∀ w : World, (Instr.index 40 (.agg #[.string a0, .int .i64 b0, .string a1, .int .i64 b1, .string a2, .int .i64 b2, .string a3, .int .i64 b3, .string a4, .int .i64 b4, .string a5, .int .i64 b5, .string a6, .int .i64 b6, .string a7, .int .i64 b7]) (.int .i64 (k : Int))).run Try.prog w = .ok (.agg #[.string x, .int .i64 y]) w := by
  match k, hk with
  | 0, _ => exact ⟨a0, b0, rfl, fun w => by kernel_rfl⟩
  | 1, _ => exact ⟨a1, b1, rfl, fun w => by kernel_rfl⟩
  | 2, _ => exact ⟨a2, b2, rfl, fun w => by kernel_rfl⟩
  | 3, _ => exact ⟨a3, b3, rfl, fun w => by kernel_rfl⟩
  | 4, _ => exact ⟨a4, b4, rfl, fun w => by kernel_rfl⟩
  | 5, _ => exact ⟨a5, b5, rfl, fun w => by kernel_rfl⟩
  | 6, _ => exact ⟨a6, b6, rfl, fun w => by kernel_rfl⟩
  | 7, _ => exact ⟨a7, b7, rfl, fun w => by kernel_rfl⟩
/-- the map that a list of names makes -/
def foldD (l : List (ByteArray × Int)) : DataW Unit := l.foldl (fun D p => D.put (lk p.1) (.lit (.int .i64 p.2))) (.map [])
theorem foldD_snoc (l : List (ByteArray × Int)) (k : Nat) (p : ByteArray × Int) (h : l[k]? = some p) : foldD (l.take (k + 1)) = (foldD (l.take k)).put (lk p.1) (.lit (.int .i64 p.2)) := by
  have hk : k < l.length := (List.getElem?_eq_some_iff.1 h).1
  rw [List.take_succ_eq_append_getElem hk]
  have e : l[k] = p := (List.getElem?_eq_some_iff.1 h).2
  rw [e]
  simp [foldD, List.foldl_append]
set_option maxRecDepth 100000 in
set_option maxHeartbeats 1000000 in
theorem add_full (N : Nat) (al : List (ByteArray × Int)) (s : ByteArray) (na va : Int) (vv : Option Addr) (vl vc : Nat) (w : World) (h : Few w N al) (hno : Hid (∀ (j : Nat) q, al[j]? = some q → key s q = false))  (a0 : ByteArray) (b0 : Int) (a1 : ByteArray) (b1 : Int) (a2 : ByteArray) (b2 : Int) (a3 : ByteArray) (b3 : Int) (a4 : ByteArray) (b4 : Int) (a5 : ByteArray) (b5 : Int) (a6 : ByteArray) (b6 : Int) (a7 : ByteArray) (b7 : Int) (hs : s.size ≤ maxLen) (hwf : (Lit.int .i64 va).wf = true) (hsz : Hid (∀ p ∈ al, p.1.size ≤ maxLen ∧ (Lit.int .i64 p.2).wf = true)) (hal8 : Hid (al = [(a0, b0), (a1, b1), (a2, b2), (a3, b3), (a4, b4), (a5, b5), (a6, b6), (a7, b7)])) :
    Calls Try.prog 26 #[.pointer (some ⟨N, 0, none⟩), .agg #[.string s, .int .i64 na, .int .i64 va, .slice vv vl vc]] w fun e w' => ∃ c : Int, (foldD al).atKey (lk s) (.lit (.int .i64 0)) = .lit (.int .i64 c) ∧ e = .returned (.tuple #[.int .i64 c, .bool (Maps.has (foldD al) (lk s))]) ∧
      ∃ n, Below (w.heap.size + 1) ((((w.alloc (.cells #[.string s, .int .i64 na, .int .i64 va, .slice vv vl vc] 49)).drewN n).setCell ⟨N, 17, none⟩ (.map (some (w.heap.size + 1)))).alloc (.map #[] 0)) w' ∧ Owns w' (w.heap.size + 1) 9 ((foldD al).put (lk s) (.lit (.int .i64 va))) := by
  have h1 := h.many
  have h2 := h.used
  have h3 := h.lt
  have h4 := h.len
  have he := fun wx => run_eql_map_nil (P := Try.prog) wx 41 9 3 none Try.underlying41
  have hu : (al.length : Int) ≤ 8 := by omega
  have hal : Try.prog.arrayLen 40 = 8 := by kernel_rfl
  have hu8 : (al.length : Int) ≤ (Try.prog.arrayLen 40 : Int) := by rw [hal]; omega
  go_enter Try.func26, Try.ntmps26
  go_wp2
  go_quiet (fail)
  go_wp2
  go_loopw [23] (fun i wr => ∃ (k n : Nat), k ≤ al.length ∧ i = .int .i64 k ∧ wr = (w.alloc (.cells #[.string s, .int .i64 na, .int .i64 va, .slice vv vl vc] 49)).drewN n) (fun i _ => al.length - (intOf i).toNat)
  case atStart => exact ⟨0, nq, Nat.zero_le _, rfl, rfl⟩
  case round =>
    obtain ⟨k, n, hk, rfl, rfl⟩ := hrel
    by_cases hlt : k < al.length
    · skip
      have hp : al[k]? = some al[k] := by simp [hlt]
      have c1 := h.name k _ hp
      have c2 := h.val k _ hp
      have hkey : (al[k].1.toList == s.toList) = false := hno.out k _ hp
      generalize al[k] = p at *
      obtain ⟨pn, pv⟩ := p
      have hki : (k : Int) < 8 := by omega
      clear hp
      go_wp2
      go_quiet (fail)
      go_wp2
      go_roundw
      case rel => exact ⟨k + 1, n + nq, by omega, by go_num, by simp⟩
      case measure => simp [intOf]; omega
    · have ek : k = al.length := by omega
      subst ek
      have f17 := h.frozen 17
      have hl8 : al.length = 8 := by rw [hal8.out]; rfl
      have n0 : w.cell? ⟨N, 0, none⟩ = some (.string a0) := h.name 0 (a0, b0) (by rw [hal8.out]; rfl)
      have m0 : w.cell? ⟨N, 1, none⟩ = some (.int .i64 b0) := h.val 0 (a0, b0) (by rw [hal8.out]; rfl)
      have n1 : w.cell? ⟨N, 2, none⟩ = some (.string a1) := h.name 1 (a1, b1) (by rw [hal8.out]; rfl)
      have m1 : w.cell? ⟨N, 3, none⟩ = some (.int .i64 b1) := h.val 1 (a1, b1) (by rw [hal8.out]; rfl)
      have n2 : w.cell? ⟨N, 4, none⟩ = some (.string a2) := h.name 2 (a2, b2) (by rw [hal8.out]; rfl)
      have m2 : w.cell? ⟨N, 5, none⟩ = some (.int .i64 b2) := h.val 2 (a2, b2) (by rw [hal8.out]; rfl)
      have n3 : w.cell? ⟨N, 6, none⟩ = some (.string a3) := h.name 3 (a3, b3) (by rw [hal8.out]; rfl)
      have m3 : w.cell? ⟨N, 7, none⟩ = some (.int .i64 b3) := h.val 3 (a3, b3) (by rw [hal8.out]; rfl)
      have n4 : w.cell? ⟨N, 8, none⟩ = some (.string a4) := h.name 4 (a4, b4) (by rw [hal8.out]; rfl)
      have m4 : w.cell? ⟨N, 9, none⟩ = some (.int .i64 b4) := h.val 4 (a4, b4) (by rw [hal8.out]; rfl)
      have n5 : w.cell? ⟨N, 10, none⟩ = some (.string a5) := h.name 5 (a5, b5) (by rw [hal8.out]; rfl)
      have m5 : w.cell? ⟨N, 11, none⟩ = some (.int .i64 b5) := h.val 5 (a5, b5) (by rw [hal8.out]; rfl)
      have n6 : w.cell? ⟨N, 12, none⟩ = some (.string a6) := h.name 6 (a6, b6) (by rw [hal8.out]; rfl)
      have m6 : w.cell? ⟨N, 13, none⟩ = some (.int .i64 b6) := h.val 6 (a6, b6) (by rw [hal8.out]; rfl)
      have n7 : w.cell? ⟨N, 14, none⟩ = some (.string a7) := h.name 7 (a7, b7) (by rw [hal8.out]; rfl)
      have m7 : w.cell? ⟨N, 15, none⟩ = some (.int .i64 b7) := h.val 7 (a7, b7) (by rw [hal8.out]; rfl)
      have hmk := make41
      clear hu hal hu8 h4
      go_wp2
      have HIX := index40 a0 b0 a1 b1 a2 b2 a3 b3 a4 b4 a5 b5 a6 b6 a7 b7
      rw [← hal8.out] at HIX
      have HIX2 : Hid (∀ (k : Nat), k < 8 → ∃ x y, al[k]? = some (x, y) ∧ ∀ w : World, (Instr.index 40 (.agg #[.string a0, .int .i64 b0, .string a1, .int .i64 b1, .string a2, .int .i64 b2, .string a3, .int .i64 b3, .string a4, .int .i64 b4, .string a5, .int .i64 b5, .string a6, .int .i64 b6, .string a7, .int .i64 b7]) (.int .i64 (k : Int))).run Try.prog w = .ok (.agg #[.string x, .int .i64 y]) w) := HIX
      clear HIX hmk f17 n0 m0 n1 m1 n2 m2 n3 m3 n4 m4 n5 m5 n6 m6 n7 m7
      go_loopw [86] (fun i wr => ∃ j : Nat, j ≤ 8 ∧ i = .int .i64 j ∧ Below (w.heap.size + 1) ((((w.alloc (.cells #[.string s, .int .i64 na, .int .i64 va, .slice vv vl vc] 49)).drewN n).setCell ⟨N, 17, none⟩ (.map (some (w.heap.size + 1)))).alloc (.map #[] 0)) wr ∧ Owns wr (w.heap.size + 1) j (foldD (al.take j))) (fun i _ => 8 - (intOf i).toNat)
      case atStart =>
        refine ⟨0, Nat.zero_le _, rfl, Below.refl _ _, ?_⟩
        have hm := World.ownsMap_made (H := Unit) (((w.alloc (.cells #[.string s, .int .i64 na, .int .i64 va, .slice vv vl vc] 49)).drewN n).setCell ⟨N, 17, none⟩ (.map (some (w.heap.size + 1)))) Try.prog 9 (plainElem Try.prog 3)
        have es : (((w.alloc (.cells #[.string s, .int .i64 na, .int .i64 va, .slice vv vl vc] 49)).drewN n).setCell ⟨N, 17, none⟩ (.map (some (w.heap.size + 1)))).heap.size = w.heap.size + 1 := by simp
        rw [es] at hm
        exact hm
      case round =>
        obtain ⟨j, hj, rfl, hB, hO⟩ := hrel
        have HO : Hid (Owns wr (w.heap.size + 1) j (foldD (al.take j))) := hO
        have hws : w.heap.size + 1 < wr.heap.size := World.ownsMap.lt hO
        have c17 : wr.cell? ⟨N, 17, none⟩ = some (.map (some (w.heap.size + 1))) := by
          rw [hB.cell (by show N < w.heap.size + 1; omega), World.cell?_alloc_lt _ _ _ (by simp; omega)]
          exact World.cell?_setCell_same _ _ _ (u := .map none) (by
            show (w.alloc _).cell? _ = _
            rw [World.cell?_alloc_lt _ _ _ h3]; exact h1)
        have hNw : N < wr.heap.size := by omega
        clear hO
        by_cases hj8 : j < 8
        · obtain ⟨x, y, hxy, hix⟩ := HIX2.out j hj8
          have HXY : Hid (al[j]? = some (x, y)) := hxy
          have hm := hsz.out (x, y) (List.mem_of_getElem? hxy)
          obtain ⟨W1, hup, hW⟩ := put_run (s := x) (va := y) hm.1 (by unfold maxLen; omega) hm.2 (fun _ => (wr.alloc (.cells #[.string x, .int .i64 y] 39)).drew) (fun _ => World.ownsMap.drew (World.ownsMap.alloc HO.out _))
          have hup0 := hup 0
          have HW : Hid (Owns (W1 0) (w.heap.size + 1) (j + 1) ((foldD (al.take j)).put (lk x) (.lit (.int .i64 y))) ∧ ((wr.alloc (.cells #[.string x, .int .i64 y] 39)).drew).grownBy (W1 0) (some (w.heap.size + 1))) := hW 0
          clear hup hW hm hxy
          go_wp2
          go_region
          all_goals go_wp2
          go_roundw
          case rel =>
            refine ⟨j + 1, by omega, by go_num, ?_, ?_⟩
            · exact (hB.alloc (by omega) _).drew.grown HW.out.2 (by simp; omega) (fun k hk => by cases hk; exact Nat.le_refl _)
            · rw [foldD_snoc al j (x, y) HXY.out]; exact HW.out.1
          case measure => simp [intOf]; omega
        · have ej : j = 8 := by omega
          subst ej
          have hO8 : Owns wr (w.heap.size + 1) 8 (foldD al) := by
            have := HO.out
            rwa [show al.take 8 = al from List.take_of_length_le (by omega)] at this
          obtain ⟨c, hl, hat⟩ := look_run hs hO8
          have hlk : ∀ n, (Instr.lookup 41 (.map (some (w.heap.size + 1))) (.string s) true).run Try.prog (wr.drewN n) = .ok (.tuple #[.int .i64 c, .bool (Maps.has (foldD al) (lk s))]) (wr.drewN n) := fun n => hl _ hO8
          obtain ⟨W1, hup, hW⟩ := put_run (s := s) (va := va) hs (by unfold maxLen; omega) hwf (fun n => wr.drewN n) (fun n => hO8)
          have HW : Hid (∀ n, Owns (W1 n) (w.heap.size + 1) (8 + 1) ((foldD al).put (lk s) (.lit (.int .i64 va))) ∧ (wr.drewN n).grownBy (W1 n) (some (w.heap.size + 1))) := hW
          have HAT : Hid ((foldD al).atKey (lk s) (.lit (.int .i64 0)) = .lit (.int .i64 c)) := hat
          have hbx0 : wr.cell? ⟨w.heap.size, 0, none⟩ = some (.string s) := by
            rw [hB.cell (by show w.heap.size < w.heap.size + 1; omega)]
            rw [World.cell?_alloc_lt _ _ _ (by simp), World.cell?_setCell_other _ _ _ _ (fun e => by have := congrArg Addr.block e; simp at this; omega)]
            show (w.alloc _).cell? _ = _
            rw [World.cell?_alloc_new]; rfl
          have hbx2 : wr.cell? ⟨w.heap.size, 2, none⟩ = some (.int .i64 va) := by
            rw [hB.cell (by show w.heap.size < w.heap.size + 1; omega)]
            rw [World.cell?_alloc_lt _ _ _ (by simp), World.cell?_setCell_other _ _ _ _ (fun e => by have := congrArg Addr.block e; simp at this; omega)]
            show (w.alloc _).cell? _ = _
            rw [World.cell?_alloc_new]; rfl
          generalize hbb : Maps.has (foldD al) (lk s) = bb at *
          have HBB : Hid (Maps.has (foldD al) (lk s) = bb) := hbb
          clear hW hat hl hO8 hbb HO
          go_wp2
          go_quiet (fail)
          go_wp2
          go_region
          go_wp2
          go_ret2
          refine ⟨c, HAT.out, by rw [HBB.out]; rfl, n, ?_, (HW.out _).1⟩
          exact (below_draws hB (nq + 1)).grown (HW.out (nq + 1)).2 (by simp; omega) (fun k hk => by cases hk; exact Nat.le_refl _)
end Go.Proofs.Qxb6605406a
