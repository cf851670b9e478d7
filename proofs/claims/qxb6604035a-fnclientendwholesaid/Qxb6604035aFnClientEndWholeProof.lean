/-
  A proof of 'Rows.FnClientEndWholeSaid'. The frame is the guide's, at this function's number and types; the two struct arguments are opened cell by cell, and read again behind the call by 'Below.trod'.
-/
import Derived.Test.Qxb6604035aRows
import Derived.WalkKit
import Derived.ProofKit
import Derived.OpenShut
import Derived.ShutString
import Derived.ChangeOld
import Derived.Below
import Derived.Test.Qxb6604035aWholeLaw
namespace Go.Proofs.Qxb6604035a.fnClientEndWhole
open Go.ChangeShapes Go.WideShapes Go.ChangeAt Go.RowKit
open Go.ChangeMaps (open_string shut_string)

theorem own : ownKnob Try.prog.godebug = none := by kernel_rfl
theorem laidOut : laidOutB Try.prog = true := by kernel_rfl

/-! a struct that came in by value, cell by cell -/
section
variable {P : Program} {w : World} {r : Reach} {base : Nat}
theorem open_struct {t : TypeId} {fs : Array Field} {ts : List TypeId} {v : Value} (ht : P.underlying t = some (.struct fs)) (hts : P.cellTypes P.depth t = some ts) (hn : P.cellsOf t = ts.length) (h : Value.okWide P w r base t v) :
    ∃ l : List Value, v = .agg l.toArray ∧ l.length = ts.length ∧ ∀ (i : Nat) (u : TypeId) (x : Value), ts[i]? = some u → l[i]? = some x → Cell.okWide P w r base u x := by
  simp only [Value.okWide, ht] at h
  obtain ⟨cs, rfl, hsz, ts', hts', _, hc⟩ := h
  rw [hts] at hts'
  cases hts'
  refine ⟨cs.toList, by simp, by simp [hsz, hn], fun i u x hu hx => ?_⟩
  have hi : i < ts.length := (List.getElem?_eq_some_iff.1 hu).1
  obtain ⟨u', hu', hk⟩ := hc i x (by simpa using hx)
  rw [Nat.mod_eq_of_lt hi, hu] at hu'
  cases hu'
  exact hk
theorem cell_int {k : IntKind} {u : TypeId} {x : Value} (hu : P.underlying u = some (.int k)) (h : Cell.okWide P w r base u x) : ∃ n, x = .int k n ∧ (Lit.int k n).wf = true := by
  cases x <;> simp_all [Cell.okWide, Cell.ok, Lit.wf, IntKind.has]
theorem cell_bool {u : TypeId} {x : Value} (hu : P.underlying u = some .bool) (h : Cell.okWide P w r base u x) : ∃ b, x = .bool b := by
  cases x <;> simp_all [Cell.okWide, Cell.ok]
theorem cell_string {u : TypeId} {x : Value} (hu : P.underlying u = some .string) (h : Cell.okWide P w r base u x) : ∃ s, x = .string s := by
  cases x <;> simp_all [Cell.okWide, Cell.ok]
end
theorem open_client {w : World} {base : Nat} {v : Value} (h : Value.okWide Try.prog w .any base 23 v) :
    ∃ n cl id iss : Int, v = .agg #[.int .i64 n, .int .i64 cl, .int .i64 id, .int .i64 iss] ∧ (Lit.int .i64 cl).wf = true := by
  obtain ⟨l, rfl, hl, hc⟩ := open_struct (ts := [3, 3, 2, 3]) Try.underlying23 (by kernel_rfl) (by kernel_rfl) h
  match l, hl with
  | [x0, x1, x2, x3], _ =>
    obtain ⟨n, rfl, _⟩ := cell_int Try.underlying3 (hc 0 3 x0 rfl rfl)
    obtain ⟨cl, rfl, hcl⟩ := cell_int Try.underlying3 (hc 1 3 x1 rfl rfl)
    obtain ⟨id, rfl, _⟩ := cell_int Try.underlying2 (hc 2 2 x2 rfl rfl)
    obtain ⟨iss, rfl, _⟩ := cell_int Try.underlying3 (hc 3 3 x3 rfl rfl)
    exact ⟨n, cl, id, iss, rfl, hcl⟩
theorem open_op {w : World} {base : Nat} {v : Value} (h : Value.okWide Try.prog w .any base 25 v) :
    ∃ (c0 kd : Int) (k s : ByteArray) (nl : Bool) (ca r0 : Int) (un : Bool), v = .agg #[.int .i64 c0, .int .u8 kd, .string k, .string s, .bool nl, .int .i64 ca, .int .i64 r0, .bool un] ∧ (Lit.int .i64 ca).wf = true := by
  obtain ⟨l, rfl, hl, hc⟩ := open_struct (ts := [2, 5, 9, 9, 4, 2, 2, 4]) Try.underlying25 (by kernel_rfl) (by kernel_rfl) h
  match l, hl with
  | [y0, y1, y2, y3, y4, y5, y6, y7], _ =>
    obtain ⟨c0, rfl, _⟩ := cell_int Try.underlying2 (hc 0 2 y0 rfl rfl)
    obtain ⟨kd, rfl, _⟩ := cell_int Try.underlying5 (hc 1 5 y1 rfl rfl)
    obtain ⟨k, rfl⟩ := cell_string Try.underlying9 (hc 2 9 y2 rfl rfl)
    obtain ⟨s, rfl⟩ := cell_string Try.underlying9 (hc 3 9 y3 rfl rfl)
    obtain ⟨nl, rfl⟩ := cell_bool Try.underlying4 (hc 4 4 y4 rfl rfl)
    obtain ⟨ca, rfl, hca⟩ := cell_int Try.underlying2 (hc 5 2 y5 rfl rfl)
    obtain ⟨r0, rfl, _⟩ := cell_int Try.underlying2 (hc 6 2 y6 rfl rfl)
    obtain ⟨un, rfl⟩ := cell_bool Try.underlying4 (hc 7 4 y7 rfl rfl)
    exact ⟨c0, kd, k, s, nl, ca, r0, un, rfl, hca⟩

set_option maxRecDepth 100000 in
theorem lifted (os : Os) (started : os.Started) (H : Type) (enc : TypeId × Value → H) :
    ReturnsInHanded {} Try.checked os 3 .any (Rows.fnClientEndWholeSpec.pre6 enc Try.prog Try.f3 Rows.fnClientEndWholeRow.domain false) (Rows.fnClientEndWholeSpec.post enc Try.prog Try.f3 false true false false) := by
  refine returnsInHanded_of_change (C := Try.checked) own started (by kernel_rfl) Try.func3
    (ChangeSpec.witness6 (enc := enc) (C := Try.checked) false ⟨#[], #[.agg #[.int .i64 0, .int .i64 0, .int .i64 0, .int .i64 0], .agg #[.int .i64 0, .int .u8 0, .string ⟨#[]⟩, .string ⟨#[]⟩, .bool false, .int .i64 0, .int .i64 0, .bool false], .int .i64 0, .bool false], []⟩ 8 (by kernel_rfl) (by kernel_rfl) (by kernel_rfl) (by kernel_rfl)) ?_
  intro W base args ds gs before hval0 hW hcnd _
  have hval : ∀ (j : Nat) t v, Try.f3.params[j]? = some t → args[j]? = some v → Value.okWide Try.prog W .any base t v := hval0
  have hW' := hW
  obtain ⟨p, q, hA0, hV, rfl, hfz, hnd⟩ := hW
  have hA : DataW.TrodAll enc Try.prog W 0 (fun _ => true) true Try.f3.params.toList args.toList ds p := hA0
  rw [Try.params3] at hA hval
  obtain ⟨v0, vs0, d0, ds0, p0, q0, hargs, rfl, rfl, h0, r0⟩ := trodAll_cons hA
  obtain ⟨v1, vs1, d1, ds1, p1, q1, rfl, rfl, rfl, h1, r1⟩ := trodAll_cons r0
  obtain ⟨v2, vs2, d2, ds2, p2, q2, rfl, rfl, rfl, h2, r2⟩ := trodAll_cons r1
  obtain ⟨v3, vs3, d3, ds3, p3, q3, rfl, rfl, rfl, h3, r3⟩ := trodAll_cons r2
  obtain ⟨rfl, rfl, rfl⟩ := trodAll_nil r3
  obtain rfl : args = #[v0, v1, v2, v3] := by cases args; simp_all
  obtain ⟨rfl, rfl⟩ := trodVars_none hV
  have k0 := h0
  have k1 := h1
  have lt0 : ∀ x ∈ p0, x.block < W.heap.size := by obtain ⟨m, hm⟩ := k0; exact DataW.trod_lt m _ _ _ hm
  have lt1 : ∀ x ∈ p1, x.block < W.heap.size := by obtain ⟨m, hm⟩ := k1; exact DataW.trod_lt m _ _ _ hm
  obtain ⟨n, cl, id, iss, rfl, wcl⟩ := open_client (hval 0 23 v0 rfl rfl)
  obtain ⟨c0, kd, k, s, nl, ca, ret, un, rfl, wca⟩ := open_op (hval 1 25 v1 rfl rfl)
  obtain ⟨a2, rfl, rfl, rfl, w2⟩ := open_int Try.underlying2 (hval 2 2 v2 rfl rfl) h2
  obtain ⟨a3, rfl, rfl, rfl⟩ := open_bool Try.underlying4 (hval 3 4 v3 rfl rfl) h3
  clear hA0 hval0
  have b2 := bounds_i64 w2
  have bca := bounds_i64 wca
  have bcl := bounds_i64 wcl
  refine (law_any n cl id iss c0 ret kd k s nl un ca a2 W a3 b2.1 bca.1 bca.2 bcl.1 bcl.2).mono fun e W' ⟨he, bel⟩ => ?_
  subst he
  exact ⟨_, rfl, _, _, _, [], _, [], hW', trodAll_mk1 (shut_bool Try.underlying4 _), (trodAll_cons_mk (Below.trod laidOut (by kernel_rfl) (of_decide_eq_true (by kernel_rfl)) k0 bel lt0) (trodAll_cons_mk (Below.trod laidOut (by kernel_rfl) (of_decide_eq_true (by kernel_rfl)) k1 bel lt1) (trodAll_cons_mk (shut_int Try.underlying2 w2) (trodAll_cons_mk (shut_bool Try.underlying4 _) trodAll_mk0)))), rfl, bel.frame _, fun h => by cases h⟩

theorem over : Rows.fnClientEndWholeRow.holds Try.pinned (OpenSpec.ofChange Rows.fnClientEndWholeSpec) :=
  OpenClaim.holds_of_wide 3 Try.f3 rfl rfl rfl rfl rfl rfl rfl ⟨rfl, rfl, rfl, rfl, rfl⟩ rfl rfl rfl rfl rfl (by kernel_rfl) Try.func3 (by kernel_rfl)
    (of_decide_eq_true (by kernel_rfl)) (by unfold Func.isWrapper; first | (rw [if_pos (by decide +kernel)]; kernel_rfl) | (rw [if_neg (by decide +kernel)]; exact ⟨rfl, rfl⟩))
    (fun os started H enc _ => lifted os started H enc)

/-- THE STATEMENT -/
theorem proved : Rows.FnClientEndWholeSaid := over
end Go.Proofs.Qxb6604035a.fnClientEndWhole
