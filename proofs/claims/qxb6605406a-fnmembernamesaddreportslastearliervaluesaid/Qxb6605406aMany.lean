/-
  (*memberNames).add (26), once it holds many names: the map.
-/
import Derived.Test.Qxb6605406aFew
namespace Go.Proofs.Qxb6605406a
open Go.RowKit Go.Maps Go.WideMaps Go.WideElems
theorem below_draws {B : Nat} {a w : World} (h : Below B a w) (n : Nat) : Below B a (w.drewN n) := h.trans ⟨rfl, rfl, rfl, Nat.le_refl _, fun _ _ => rfl⟩
theorem law : Keyed Try.prog 9 := string_keyed Try.underlying9
theorem zeroE (w : World) : (zeroValue 3).run Try.prog w = .ok (.int .i64 0) w := by kernel_rfl
def Owns (w : World) (G k : Nat) (D : DataW Unit) : Prop := w.ownsMap Try.prog 9 (plainElem Try.prog 3) G k D
def lk (s : ByteArray) : Lit := .string s.data.toList
/-- what a map says of a name -/
def look (D : DataW Unit) (s : ByteArray) : Option Int := if Maps.has D (lk s) then (match D.atKey (lk s) (.lit (.int .i64 0)) with | .lit (.int .i64 c) => some c | _ => none) else none
/-- 'v, ok := m[s]' in whatever world that owns the map -/
theorem look_run {D : DataW Unit} {G k : Nat} {s : ByteArray} (hs : s.size ≤ maxLen) {w0 : World} (h0 : Owns w0 G k D) :
    ∃ c : Int, (∀ w : World, Owns w G k D → (Instr.lookup 41 (.map (some G)) (.string s) true).run Try.prog w = .ok (.tuple #[.int .i64 c, .bool (Maps.has D (lk s))]) w) ∧ D.atKey (lk s) (.lit (.int .i64 0)) = .lit (.int .i64 c) := by
  have hz : plainElem (H := Unit) Try.prog 3 (.int .i64 0) = some (.lit (.int .i64 0), []) := plainElem_int Try.underlying3 (by decide)
  have hk : keyOf Try.prog 9 (.string s) = some (lk s) := keyOf_string_mk Try.underlying9 hs
  obtain ⟨v, ps, hrun, hv⟩ := World.ownsMap.look_ok h0 law Try.underlying41 (zeroE _) hz hk
  obtain ⟨c, rfl, hc, _⟩ := plainElem_int_inv Try.underlying3 hv
  simp only [Prod.mk.injEq] at hc
  refine ⟨c, fun w hw => ?_, hc.1⟩
  obtain ⟨v', ps', hrun', hv'⟩ := World.ownsMap.look_ok hw law Try.underlying41 (zeroE _) hz hk
  obtain ⟨c', rfl, hc', _⟩ := plainElem_int_inv Try.underlying3 hv'
  simp only [Prod.mk.injEq] at hc'
  have e : c' = c := by
    have := hc.1.symm.trans hc'.1
    simpa using this.symm
  rw [hrun', e]
/-- 'm[s] = v' -/
theorem put_run {D : DataW Unit} {G k : Nat} {s : ByteArray} {va : Int} (hs : s.size ≤ maxLen) (hk : k < maxLen) (hwf : (Lit.int .i64 va).wf = true) (F : Nat → World) (h : ∀ n, Owns (F n) G k D) :
    ∃ W1 : Nat → World, (∀ n, (Instr.mapUpdate 41 (.map (some G)) (.string s) (.int .i64 va)).run Try.prog (F n) = .ok () (W1 n)) ∧ ∀ n, Owns (W1 n) G (k + 1) (D.put (lk s) (.lit (.int .i64 va))) ∧ (F n).grownBy (W1 n) (some G) := by
  have hx : ∀ n, ∃ w', (Instr.mapUpdate 41 (.map (some G)) (.string s) (.int .i64 va)).run Try.prog (F n) = .ok () w' ∧ Owns w' G (k + 1) (D.put (lk s) (.lit (.int .i64 va))) ∧ (F n).grownBy w' (some G) :=
    fun n => World.ownsMap.update (h n) law Try.underlying41 hk (keyOf_string_mk Try.underlying9 hs) (plainElem_int Try.underlying3 hwf)
  exact ⟨fun n => (hx n).choose, fun n => (hx n).choose_spec.1, fun n => (hx n).choose_spec.2⟩
set_option maxRecDepth 100000 in
set_option maxHeartbeats 400000 in
theorem add_many (N : Nat) (s : ByteArray) (na va : Int) (vv : Option Addr) (vl vc : Nat) (w : World) (G k : Nat) (D : DataW Unit) (hN : N < w.heap.size) (h17 : w.cell? ⟨N, 17, none⟩ = some (.map (some G)))
    (hown : Owns w G k D) (hs : s.size ≤ maxLen) (hk : k < maxLen) (hwf : (Lit.int .i64 va).wf = true) :
    Calls Try.prog 26 #[.pointer (some ⟨N, 0, none⟩), .agg #[.string s, .int .i64 na, .int .i64 va, .slice vv vl vc]] w fun e w' =>
      ∃ c : Int, D.atKey (lk s) (.lit (.int .i64 0)) = .lit (.int .i64 c) ∧ e = .returned (.tuple #[.int .i64 c, .bool (Maps.has D (lk s))]) ∧
      ∃ w0, Below w.heap.size w w0 ∧ Owns w' G (k + 1) (D.put (lk s) (.lit (.int .i64 va))) ∧ w0.grownBy w' (some G) := by
  have he := fun wx => run_eql_map_nil (P := Try.prog) wx 41 9 3 (some G) Try.underlying41
  have hbox : ∀ n, Owns ((w.alloc (.cells #[.string s, .int .i64 na, .int .i64 va, .slice vv vl vc] 49)).drewN n) G k D := fun n => World.ownsMap.alloc hown _
  obtain ⟨c, hl, hat⟩ := look_run hs hown
  obtain ⟨W1, hup, hW⟩ := put_run hs hk hwf (fun n => (w.alloc (.cells #[.string s, .int .i64 na, .int .i64 va, .slice vv vl vc] 49)).drewN n) hbox
  have hlk : ∀ n, (Instr.lookup 41 (.map (some G)) (.string s) true).run Try.prog ((w.alloc (.cells #[.string s, .int .i64 na, .int .i64 va, .slice vv vl vc] 49)).drewN n) = .ok (.tuple #[.int .i64 c, .bool (Maps.has D (lk s))]) ((w.alloc (.cells #[.string s, .int .i64 na, .int .i64 va, .slice vv vl vc] 49)).drewN n) := fun n => hl _ (hbox n)
  have HW : Hid (∀ n, Owns (W1 n) G (k + 1) (D.put (lk s) (.lit (.int .i64 va))) ∧ ((w.alloc (.cells #[.string s, .int .i64 na, .int .i64 va, .slice vv vl vc] 49)).drewN n).grownBy (W1 n) (some G)) := hW
  have HAT : Hid (D.atKey (lk s) (.lit (.int .i64 0)) = .lit (.int .i64 c)) := hat
  generalize hb : Maps.has D (lk s) = b at *
  have HBB : Hid (Maps.has D (lk s) = b) := hb
  clear hW hat hbox hl hown hb
  go_enter Try.func26, Try.ntmps26
  go_wp2
  go_quiet (fail)
  go_wp2
  go_region
  go_wp2
  go_ret2
  exact ⟨c, HAT.out, rfl, (w.alloc (.cells #[.string s, .int .i64 na, .int .i64 va, .slice vv vl vc] 49)).drewN (nq + 1), below_draws ((Below.refl _ _).alloc (Nat.le_refl _) _) _, (HW.out _).1, (HW.out _).2⟩
end Go.Proofs.Qxb6605406a
