/-
  (*memberNames).add (26), while it holds few names: a name that is there; a new name where there is room.
-/
import Derived.Test.Qxb6605406aRows
import Derived.WalkKit
import Derived.WalkSpells
import Derived.BigQuiet
import Derived.Deep.QuietTactic
import Derived.BigRegion
import Derived.Maps.OwnSet
import Derived.Deep.DeepCutAuto
namespace Go.Proofs.Qxb6605406a
open Go.RowKit Go.Maps
/-- the struct in block N while it holds few names -/
structure Few (w : World) (N : Nat) (al : List (ByteArray × Int)) : Prop where
  lt : N < w.heap.size
  len : al.length ≤ 8
  many : w.cell? ⟨N, 17, none⟩ = some (.map none)
  used : w.cell? ⟨N, 16, none⟩ = some (.int .i64 (al.length : Int))
  name : ∀ i p, al[i]? = some p → w.cell? ⟨N, i * 2, none⟩ = some (.string p.1)
  val : ∀ i p, al[i]? = some p → w.cell? ⟨N, i * 2 + 1, none⟩ = some (.int .i64 p.2)
  cells : ∀ i, i < 18 → ∃ v, w.cell? ⟨N, i, none⟩ = some v
  frozen : ∀ i, w.frozen? ⟨N, i, none⟩ = false
def key (s : ByteArray) (p : ByteArray × Int) : Bool := p.1.toList == s.toList
set_option maxRecDepth 100000 in
set_option maxHeartbeats 400000 in
theorem add_hit (N : Nat) (al : List (ByteArray × Int)) (s : ByteArray) (na va : Int) (vv : Option Addr) (vl vc : Nat) (w : World) (h : Few w N al) (r : Nat) (p : ByteArray × Int) (hr : al[r]? = some p) (hp : (p.1.toList == s.toList) = true) (hno : Hid (∀ (j : Nat) q, j < r → al[j]? = some q → key s q = false)) :
    Calls Try.prog 26 #[.pointer (some ⟨N, 0, none⟩), .agg #[.string s, .int .i64 na, .int .i64 va, .slice vv vl vc]] w fun e w' => e = .returned (.tuple #[.int .i64 p.2, .bool true]) ∧ ∃ n, w' = ((w.alloc (.cells #[.string s, .int .i64 na, .int .i64 va, .slice vv vl vc] 49)).drewN n).setCell ⟨N, r * 2 + 1, none⟩ (.int .i64 va) := by
  have hrl : r < al.length := (List.getElem?_eq_some_iff.1 hr).1
  have hR : Hid (al[r]? = some p) := hr
  clear hr
  have h1 := h.many
  have h2 := h.used
  have h3 := h.lt
  have h4 := h.len
  have he := fun wx => run_eql_map_nil (P := Try.prog) wx 41 9 3 none Try.underlying41
  have hu : (al.length : Int) ≤ 8 := by omega
  have hal : Try.prog.arrayLen 40 = 8 := by kernel_rfl
  have hu8 : (al.length : Int) ≤ (Try.prog.arrayLen 40 : Int) := by rw [hal]; omega
  go_enter Try.func26, Try.ntmps26
  go_wp2
  go_quiet (fail)
  go_wp2
  go_loopw [23] (fun i wr => ∃ (k n : Nat), k ≤ r ∧ i = .int .i64 k ∧ wr = (w.alloc (.cells #[.string s, .int .i64 na, .int .i64 va, .slice vv vl vc] 49)).drewN n) (fun i _ => al.length - (intOf i).toNat)
  case atStart => exact ⟨0, nq, Nat.zero_le _, rfl, rfl⟩
  case round =>
    obtain ⟨k, n, hk, rfl, rfl⟩ := hrel
    by_cases hkr : k < r
    · have hlt : k < al.length := by omega
      have hp : al[k]? = some al[k] := by simp [hlt]
      have c1 := h.name k _ hp
      have c2 := h.val k _ hp
      have hkey : (al[k].1.toList == s.toList) = false := hno.out k _ hkr hp
      generalize al[k] = p at *
      obtain ⟨pn, pv⟩ := p
      have hki : (k : Int) < 8 := by omega
      clear hp
      go_wp2
      go_quiet (fail)
      go_wp2
      go_roundw
      case rel => exact ⟨k + 1, n + nq, by omega, by go_num, by simp⟩
      case measure => simp [intOf]; omega
    · have ek : k = r := by omega
      subst ek
      have hlt : k < al.length := hrl
      have c1 := h.name k _ hR.out
      have c2 := h.val k _ hR.out
      have c3 := h.frozen (k * 2 + 1)
      obtain ⟨pn, pv⟩ := p
      have hki : (k : Int) < 8 := by omega
      have hpb : (pn.toList == s.toList) = true := hp
      clear hp
      go_wp2
      go_quiet (fail)
      go_wp2
      go_region
      all_goals go_wp2
      go_ret2
      exact ⟨rfl, _, rfl⟩
set_option maxRecDepth 100000 in
set_option maxHeartbeats 400000 in
theorem add_new (N : Nat) (al : List (ByteArray × Int)) (s : ByteArray) (na va : Int) (vv : Option Addr) (vl vc : Nat) (w : World) (h : Few w N al) (hno : Hid (∀ (j : Nat) q, al[j]? = some q → key s q = false)) (hroom : al.length < 8) :
    Calls Try.prog 26 #[.pointer (some ⟨N, 0, none⟩), .agg #[.string s, .int .i64 na, .int .i64 va, .slice vv vl vc]] w fun e w' => e = .returned (.tuple #[.int .i64 0, .bool false]) ∧ ∃ n, w' = ((((w.alloc (.cells #[.string s, .int .i64 na, .int .i64 va, .slice vv vl vc] 49)).drewN n).setCell ⟨N, al.length * 2, none⟩ (.string s)).setCell ⟨N, al.length * 2 + 1, none⟩ (.int .i64 va)).setCell ⟨N, 16, none⟩ (.int .i64 ((al.length : Int) + 1)) := by
  have h1 := h.many
  have h2 := h.used
  have h3 := h.lt
  have h4 := h.len
  have he := fun wx => run_eql_map_nil (P := Try.prog) wx 41 9 3 none Try.underlying41
  have hu : (al.length : Int) ≤ 8 := by omega
  have hal : Try.prog.arrayLen 40 = 8 := by kernel_rfl
  have hu8 : (al.length : Int) ≤ (Try.prog.arrayLen 40 : Int) := by rw [hal]; omega
  go_enter Try.func26, Try.ntmps26
  go_wp2
  go_quiet (fail)
  go_wp2
  go_loopw [23] (fun i wr => ∃ (k n : Nat), k ≤ al.length ∧ i = .int .i64 k ∧ wr = (w.alloc (.cells #[.string s, .int .i64 na, .int .i64 va, .slice vv vl vc] 49)).drewN n) (fun i _ => al.length - (intOf i).toNat)
  case atStart => exact ⟨0, nq, Nat.zero_le _, rfl, rfl⟩
  case round =>
    obtain ⟨k, n, hk, rfl, rfl⟩ := hrel
    by_cases hlt : k < al.length
    · skip
      have hp : al[k]? = some al[k] := by simp [hlt]
      have c1 := h.name k _ hp
      have c2 := h.val k _ hp
      have hkey : (al[k].1.toList == s.toList) = false := hno.out k _ hp
      generalize al[k] = p at *
      obtain ⟨pn, pv⟩ := p
      have hki : (k : Int) < 8 := by omega
      clear hp
      go_wp2
      go_quiet (fail)
      go_wp2
      go_roundw
      case rel => exact ⟨k + 1, n + nq, by omega, by go_num, by simp⟩
      case measure => simp [intOf]; omega
    · have ek : k = al.length := by omega
      subst ek
      have f1 := h.frozen (al.length * 2)
      have f2 := h.frozen (al.length * 2 + 1)
      have f3 := h.frozen 16
      obtain ⟨v1, g1⟩ := h.cells (al.length * 2) (by omega)
      obtain ⟨v2, g2⟩ := h.cells (al.length * 2 + 1) (by omega)
      have hroomi : (al.length : Int) < 8 := by omega
      have hne : ¬ al.length * 2 = 16 := by omega
      have hne2 : ¬ al.length * 2 + 1 = 16 := by omega
      go_wp2
      go_region
      all_goals go_wp2
      go_ret2
      exact ⟨rfl, _, rfl⟩
end Go.Proofs.Qxb6605406a
