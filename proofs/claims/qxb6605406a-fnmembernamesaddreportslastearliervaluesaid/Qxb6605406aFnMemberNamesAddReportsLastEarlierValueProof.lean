/-
  A proof of 'Rows.FnMemberNamesAddReportsLastEarlierValueSaid'. The frame is the guide's, at this function's number and types; the slice of members is opened element by element, and read again behind the call by 'Below.trod'.
-/
import Derived.Test.Qxb6605406aRows
import Derived.WalkKit
import Derived.ProofKit
import Derived.OpenShut
import Derived.ShutString
import Derived.ChangeOld
import Derived.Below
import Derived.Deep.Slices
import Derived.Lib.SmallJoins
import Derived.Test.Qxb6605406aLaw
import Derived.Test.Qxb6605406aZero
namespace Go.Proofs.Qxb6605406a.fnMemberNamesAddReportsLastEarlierValue
open Go.ChangeShapes Go.WideShapes Go.ChangeAt Go.RowKit Go.Deep Go.Joins

theorem own : ownKnob Try.prog.godebug = none := by kernel_rfl
theorem laidOut : laidOutB Try.prog = true := by kernel_rfl
theorem c36 : Try.prog.cellsOf 36 = 4 := by kernel_rfl
theorem c5 : Try.prog.cellsOf 5 = 1 := by kernel_rfl
theorem c9 : Try.prog.cellsOf 9 = 1 := by kernel_rfl
theorem c3 : Try.prog.cellsOf 3 = 1 := by kernel_rfl
theorem c25 : Try.prog.cellsOf 25 = 1 := by kernel_rfl

section
variable {H : Type} {enc : TypeId × Value → H} {W : World}
/-- a field that is a slice of bytes -/
theorem open_bytes {fuel : Nat} {v : Value} {x : DataW H × List MemPlace} (h : DataW.trod enc Try.prog W 0 (fun _ => true) true fuel 25 [v] = some x) : ∃ vs vl vc, v = .slice vs vl vc ∧ ByteRow W vs vl ∧ vl ≤ maxLen := by
  rcases open_slice1 Try.underlying25 c5 h with ⟨hv, _⟩ | ⟨a, len, cap, m, n, V, D, Pl, hv, _, hl, hm, hmm, _, hx⟩
  · simp at hv
    exact ⟨none, 0, 0, hv, .inl ⟨rfl, rfl⟩, Nat.zero_le _⟩
  · simp at hv
    refine ⟨some a, len, cap, hv, ?_, Nat.le_trans hl hm⟩
    have hmc : m = cap := by simpa using hmm
    obtain ⟨f, hf⟩ := choose_lt (α := Int) (n := len) (p := fun j z => W.cell? (a.add j) = some (.int .u8 z)) (fun j hj => by
      obtain ⟨h1, h2⟩ := hx j (by omega)
      obtain ⟨z, hz, _, _⟩ := DataW.trod_int Try.underlying5 h2
      simp at hz
      exact ⟨z, by rw [h1, hz]⟩)
    exact .inr ⟨a, rfl, f, hf⟩
/-- one member -/
theorem open_member {fuel : Nat} {cs : List Value} {x : DataW H × List MemPlace} {a : Addr} (hc : W.cells? 0 a 4 = some cs) (h : DataW.trod enc Try.prog W 0 (fun _ => true) true fuel 36 cs = some x) :
    ∃ m : Mem, W.cell? (a.add 0) = some (.string m.name) ∧ W.cell? (a.add 1) = some (.int .i64 m.na) ∧ W.cell? (a.add 2) = some (.int .i64 m.va) ∧ W.cell? (a.add 3) = some (.slice m.vs m.vl m.vc) ∧
      ByteRow W m.vs m.vl ∧ m.name.size ≤ maxLen ∧ m.vl ≤ maxLen ∧ (Lit.int .i64 m.va).wf = true := by
  obtain ⟨_, hlen, hget⟩ := World.cells?_some hc
  match cs, hlen, hget, h with
  | [v0, v1, v2, v3], _, hget, h =>
    obtain ⟨y0, y1, y2, y3, n, _, _, h0, h1, h2, h3⟩ := trod_struct4 Try.underlying36 h
    have g0 : DataW.trod enc Try.prog W 0 (fun _ => true) true n 9 [v0] = some y0 := by simpa [c9] using h0
    have g1 : DataW.trod enc Try.prog W 0 (fun _ => true) true n 3 [v1] = some y1 := by simpa [c3] using h1
    have g2 : DataW.trod enc Try.prog W 0 (fun _ => true) true n 3 [v2] = some y2 := by simpa [c3] using h2
    have g3 : DataW.trod enc Try.prog W 0 (fun _ => true) true n 25 [v3] = some y3 := by simpa [c25] using h3
    obtain ⟨s, e0, _, hs⟩ := DataW.trod_string Try.underlying9 g0
    obtain ⟨na, e1, _, _⟩ := DataW.trod_int Try.underlying3 g1
    obtain ⟨va, e2, _, hva⟩ := DataW.trod_int Try.underlying3 g2
    obtain ⟨vs, vl, vc, e3, hrow, hvl⟩ := open_bytes g3
    simp at e0 e1 e2
    subst e0 e1 e2 e3
    exact ⟨⟨s, na, va, vs, vl, vc⟩, hget 0 (by omega), hget 1 (by omega), hget 2 (by omega), hget 3 (by omega), hrow, hs, hvl, hva⟩
/-- all of them -/
theorem open_members {a : Addr} {len : Nat} (h0 : 0 < len) (h : ∀ i, i < len → ∃ (n : Nat) (cs : List Value) (x : DataW H × List MemPlace), W.cells? 0 (a.add (i * 4)) 4 = some cs ∧ DataW.trod enc Try.prog W 0 (fun _ => true) true n 36 cs = some x) :
    ∃ b off, a = ⟨b, off, none⟩ ∧ ∃ M : Nat → Mem, Came W b off len M := by
  have hz := h 0 h0
  obtain ⟨b, off, spot⟩ := a
  have hspot : spot = none := by
    obtain ⟨n, cs, x, hc, ht⟩ := hz
    obtain ⟨m, e0, _⟩ := open_member hc ht
    have := World.cell?_spot e0
    simpa [Addr.add] using this
  subst hspot
  refine ⟨b, off, rfl, ?_⟩
  have hall : ∀ i, i < len → ∃ m : Mem, MemAt W b (off + i * 4) m ∧ ByteRow W m.vs m.vl ∧ m.name.size ≤ 9223372036854775807 ∧ m.vl ≤ 9223372036854775807 ∧ (Lit.int .i64 m.va).wf = true := fun i hi => by
    obtain ⟨n, cs, x, hc, ht⟩ := h i hi
    obtain ⟨m, e0, e1, e2, e3, hrow, hs, hvl, hva⟩ := open_member hc ht
    rw [Go.WideShapes.add_plain, Go.WideShapes.add_plain] at e0 e1 e2 e3
    exact ⟨m, ⟨e0, e1, e2, e3⟩, hrow, hs, hvl, hva⟩
  refine ⟨fun i => if hi : i < len then (hall i hi).choose else ⟨⟨#[]⟩, 0, 0, none, 0, 0⟩, fun i hi => ?_⟩
  simp only [dif_pos hi]
  exact (hall i hi).choose_spec
end

theorem walk (a0 : Option Addr) (len0 cap0 : Nat) (w : World)
    (h : (a0 = none ∧ len0 = 0 ∧ cap0 = 0) ∨ (len0 = 0 ∧ ∃ x, a0 = some x) ∨ ∃ b off M, a0 = some ⟨b, off, none⟩ ∧ len0 ≤ 9223372036854775807 ∧ Came w b off len0 M) :
    Calls Try.prog 7 #[.slice a0 len0 cap0] w fun e w' => e = .returned (.bool true) ∧ Below w.heap.size w w' := by
  rcases h with ⟨rfl, rfl, rfl⟩ | ⟨rfl, x, rfl⟩ | ⟨b, off, M, rfl, hn, hM⟩
  · exact law_zero w none 0 (fun _ => rfl)
  · exact law_zero w (some x) cap0 (fun e => by cases e)
  · exact law_some w b off len0 cap0 M hn hM

set_option maxRecDepth 100000 in
theorem lifted (os : Os) (started : os.Started) (H : Type) (enc : TypeId × Value → H) :
    ReturnsInHanded {} Try.checked os 7 .any (Rows.fnMemberNamesAddReportsLastEarlierValueSpec.pre6 enc Try.prog Try.f7 Rows.fnMemberNamesAddReportsLastEarlierValueRow.domain false) (Rows.fnMemberNamesAddReportsLastEarlierValueSpec.post enc Try.prog Try.f7 false true false false) := by
  refine returnsInHanded_of_change (C := Try.checked) own started (by kernel_rfl) Try.func7
    (ChangeSpec.witness6 (enc := enc) (C := Try.checked) false ⟨#[], #[.slice none 0 0], []⟩ 8 (by kernel_rfl) (by kernel_rfl) (by kernel_rfl) (by kernel_rfl)) ?_
  intro W base args ds gs before hval0 hW hcnd _
  have hval : ∀ (j : Nat) t v, Try.f7.params[j]? = some t → args[j]? = some v → Value.okWide Try.prog W .any base t v := hval0
  have hW' := hW
  obtain ⟨p, q, hA0, hV, rfl, hfz, hnd⟩ := hW
  have hA : DataW.TrodAll enc Try.prog W 0 (fun _ => true) true Try.f7.params.toList args.toList ds p := hA0
  rw [Try.params7] at hA hval
  obtain ⟨v0, vs0, d0, ds0, p0, q0, hargs, rfl, rfl, h0, r0⟩ := trodAll_cons hA
  obtain ⟨rfl, rfl, rfl⟩ := trodAll_nil r0
  obtain rfl : args = #[v0] := by cases args; simp_all
  obtain ⟨rfl, rfl⟩ := trodVars_none hV
  obtain ⟨a0, len0, cap0, rfl⟩ := okWide_slice Try.underlying33 (hval 0 33 v0 rfl rfl)
  have k0 := h0
  have lt0 : ∀ x ∈ p0, x.block < W.heap.size := by obtain ⟨m, hm⟩ := k0; exact DataW.trod_lt m _ _ _ hm
  have w0 : (a0 = none ∧ len0 = 0 ∧ cap0 = 0) ∨ (len0 = 0 ∧ ∃ x, a0 = some x) ∨ ∃ b off M, a0 = some ⟨b, off, none⟩ ∧ len0 ≤ 9223372036854775807 ∧ Came W b off len0 M := by
    obtain ⟨fuel, hf⟩ := h0
    rcases open_slice Try.underlying33 hf with ⟨hcs, _⟩ | ⟨a, len, cap, m, n, D, Pl, hcs, _, hl, hm, hmm, _, hx⟩
    · simp [Value.cells] at hcs
      exact .inl hcs
    · simp [Value.cells] at hcs
      obtain ⟨rfl, rfl, rfl⟩ := hcs
      by_cases hz : len0 = 0
      · exact .inr (.inl ⟨hz, a, rfl⟩)
      · have hmc : m = cap0 := by simpa using hmm
        rw [c36] at hx
        obtain ⟨b, off, rfl, M, hM⟩ := open_members (enc := enc) (W := W) (a := a) (len := len0) (by omega) (fun i hi => by
          obtain ⟨cs', h1, h2⟩ := hx i (by omega)
          exact ⟨n, cs', _, h1, h2⟩)
        exact .inr (.inr ⟨b, off, M, rfl, Nat.le_trans hl hm, hM⟩)
  clear hA0 hval0
  refine (walk a0 len0 cap0 W w0).mono fun e W' ⟨he, bel⟩ => ?_
  subst he
  exact ⟨_, rfl, _, _, _, [], _, [], hW', trodAll_mk1 (shut_bool Try.underlying4 _), (trodAll_cons_mk (Below.trod laidOut (by kernel_rfl) (of_decide_eq_true (by kernel_rfl)) k0 bel lt0) trodAll_mk0), rfl, bel.frame _, fun h => by cases h⟩

theorem over : Rows.fnMemberNamesAddReportsLastEarlierValueRow.holds Try.pinned (OpenSpec.ofChange Rows.fnMemberNamesAddReportsLastEarlierValueSpec) :=
  OpenClaim.holds_of_wide 7 Try.f7 rfl rfl rfl rfl rfl rfl rfl ⟨rfl, rfl, rfl, rfl, rfl⟩ rfl rfl rfl rfl rfl (by kernel_rfl) Try.func7 (by kernel_rfl)
    (of_decide_eq_true (by kernel_rfl)) (by unfold Func.isWrapper; first | (rw [if_pos (by decide +kernel)]; kernel_rfl) | (rw [if_neg (by decide +kernel)]; exact ⟨rfl, rfl⟩))
    (fun os started H enc _ => lifted os started H enc)

/-- THE STATEMENT -/
theorem proved : Rows.FnMemberNamesAddReportsLastEarlierValueSaid := over
end Go.Proofs.Qxb6605406a.fnMemberNamesAddReportsLastEarlierValue
