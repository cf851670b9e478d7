/-
  A proof of 'Rows.FnClientEndFailedIDsStayApartSaid'. The frame is the guide's shell at this function's number and types; its last line is given limb by limb, over 'Below'.
-/
import Derived.Test.Qxb6604035aRows
import Derived.WalkKit
import Derived.ProofKit
import Derived.OpenShut
import Derived.ShutString
import Derived.Below
import Derived.Test.Qxb6604035aEndWalks
namespace Go.Proofs.Qxb6604035a.fnClientEndFailedIDsStayApart
open Go.ChangeShapes Go.WideShapes Go.ChangeAt Go.RowKit
open Go.ChangeMaps (open_string shut_string)
set_option linter.unusedVariables false      -- a walk need not use every 'w<i>' (that an integer argument fits its kind)

theorem own : ownKnob Try.prog.godebug = none := by kernel_rfl

def Cli (w : World) (b : Nat) (n cl id iss : Int) : Prop := w.cell? ⟨b, 0, none⟩ = some (.int .i64 n) ∧ w.cell? ⟨b, 1, none⟩ = some (.int .i64 cl) ∧ w.cell? ⟨b, 2, none⟩ = some (.int .i64 id) ∧ w.cell? ⟨b, 3, none⟩ = some (.int .i64 iss) ∧ w.frozen? ⟨b, 2, none⟩ = false
def OpA (w : World) (b : Nat) (kd : Int) : Prop := w.cell? ⟨b, 0, none⟩ = some (.int .i64 0) ∧ w.cell? ⟨b, 1, none⟩ = some (.int .u8 kd) ∧ w.cell? ⟨b, 2, none⟩ = some (.string ⟨#[]⟩) ∧ w.cell? ⟨b, 3, none⟩ = some (.string ⟨#[]⟩) ∧ w.cell? ⟨b, 4, none⟩ = some (.bool false) ∧ w.cell? ⟨b, 5, none⟩ = some (.int .i64 0) ∧ w.cell? ⟨b, 6, none⟩ = some (.int .i64 0) ∧ w.cell? ⟨b, 7, none⟩ = some (.bool false)
def Inv (w : World) (a0 a1 a2 x y : Int) (wr : World) : Prop :=
  Below w.heap.size w wr ∧ w.heap.size + 3 < wr.heap.size ∧ Cli wr w.heap.size a1 a0 x 0 ∧ Cli wr (w.heap.size + 1) a2 a0 y 0 ∧ OpA wr (w.heap.size + 1 + 1) 2 ∧ OpA wr (w.heap.size + 1 + 1 + 1) 3

section
variable (wr : World) (b : Nat) (v : Value) (o1 o2 o3 : Obj)
theorem st_other {q : Addr} (hq : q.block < wr.heap.size) (hne : (⟨b, 2, none⟩ : Addr) ≠ q) : ((((wr.setCell ⟨b, 2, none⟩ v).alloc o1).alloc o2).alloc o3).drew.cell? q = wr.cell? q := by
  show ((((wr.setCell ⟨b, 2, none⟩ v).alloc o1).alloc o2).alloc o3).cell? q = wr.cell? q
  rw [World.cell?_alloc_lt _ _ _ (by simp; omega), World.cell?_alloc_lt _ _ _ (by simp; omega), World.cell?_alloc_lt _ _ _ (by simp; omega), World.cell?_setCell_other _ _ _ _ hne]
theorem st_same {u : Value} (h : wr.cell? ⟨b, 2, none⟩ = some u) (hb : b < wr.heap.size) : ((((wr.setCell ⟨b, 2, none⟩ v).alloc o1).alloc o2).alloc o3).drew.cell? ⟨b, 2, none⟩ = some v := by
  show ((((wr.setCell ⟨b, 2, none⟩ v).alloc o1).alloc o2).alloc o3).cell? ⟨b, 2, none⟩ = some v
  rw [World.cell?_alloc_lt _ _ _ (by simp; omega), World.cell?_alloc_lt _ _ _ (by simp; omega), World.cell?_alloc_lt _ _ _ (by simp; omega), World.cell?_setCell_same _ _ _ h]
theorem st_below {w : World} {B : Nat} (h : Below B w wr) (hb : B ≤ b) (hB : B ≤ wr.heap.size) : Below B w ((((wr.setCell ⟨b, 2, none⟩ v).alloc o1).alloc o2).alloc o3).drew :=
  ((((h.setCell (p := ⟨b, 2, none⟩) hb v).alloc (by simp; omega) o1).alloc (by simp; omega) o2).alloc (by simp; omega) o3).drew
theorem st_frozen {q : Addr} (hq : q.block < wr.heap.size) : ((((wr.setCell ⟨b, 2, none⟩ v).alloc o1).alloc o2).alloc o3).drew.frozen? q = wr.frozen? q := by
  have h : Below wr.heap.size (wr.setCell ⟨b, 2, none⟩ v) ((((wr.setCell ⟨b, 2, none⟩ v).alloc o1).alloc o2).alloc o3).drew :=
    ((((Below.refl _ _).alloc (by simp) o1).alloc (by simp) o2).alloc (by simp; omega) o3).drew
  rw [h.frozen hq, World.frozen?_setCell]
theorem st_size : ((((wr.setCell ⟨b, 2, none⟩ v).alloc o1).alloc o2).alloc o3).drew.heap.size = wr.heap.size + 3 := by
  show ((((wr.setCell ⟨b, 2, none⟩ v).alloc o1).alloc o2).alloc o3).heap.size = wr.heap.size + 3
  simp
end
theorem Cli.own {wr : World} {b : Nat} {n cl id iss : Int} (h : Cli wr b n cl id iss) (hb : b < wr.heap.size) (v : Int) (o1 o2 o3 : Obj) : Cli ((((wr.setCell ⟨b, 2, none⟩ (.int .i64 v)).alloc o1).alloc o2).alloc o3).drew b n cl v iss :=
  ⟨(st_other _ _ _ _ _ _ hb (by simp)).trans h.1, (st_other _ _ _ _ _ _ hb (by simp)).trans h.2.1, st_same _ _ _ _ _ _ h.2.2.1 hb, (st_other _ _ _ _ _ _ hb (by simp)).trans h.2.2.2.1, (st_frozen _ _ _ _ _ _ hb).trans h.2.2.2.2⟩
theorem Cli.other {wr : World} {b c : Nat} {n cl id iss : Int} (h : Cli wr b n cl id iss) (hb : b < wr.heap.size) (hc : c ≠ b) (v : Value) (o1 o2 o3 : Obj) : Cli ((((wr.setCell ⟨c, 2, none⟩ v).alloc o1).alloc o2).alloc o3).drew b n cl id iss :=
  ⟨(st_other _ _ _ _ _ _ hb (fun e => hc (congrArg Addr.block e))).trans h.1, (st_other _ _ _ _ _ _ hb (fun e => hc (congrArg Addr.block e))).trans h.2.1, (st_other _ _ _ _ _ _ hb (fun e => hc (congrArg Addr.block e))).trans h.2.2.1, (st_other _ _ _ _ _ _ hb (fun e => hc (congrArg Addr.block e))).trans h.2.2.2.1, (st_frozen _ _ _ _ _ _ hb).trans h.2.2.2.2⟩
theorem OpA.other {wr : World} {b c : Nat} {kd : Int} (h : OpA wr b kd) (hb : b < wr.heap.size) (hc : c ≠ b) (v : Value) (o1 o2 o3 : Obj) : OpA ((((wr.setCell ⟨c, 2, none⟩ v).alloc o1).alloc o2).alloc o3).drew b kd := by
  obtain ⟨x0, x1, x2, x3, x4, x5, x6, x7⟩ := h
  exact ⟨(st_other _ _ _ _ _ _ hb (fun e => hc (congrArg Addr.block e))).trans x0, (st_other _ _ _ _ _ _ hb (fun e => hc (congrArg Addr.block e))).trans x1, (st_other _ _ _ _ _ _ hb (fun e => hc (congrArg Addr.block e))).trans x2, (st_other _ _ _ _ _ _ hb (fun e => hc (congrArg Addr.block e))).trans x3, (st_other _ _ _ _ _ _ hb (fun e => hc (congrArg Addr.block e))).trans x4, (st_other _ _ _ _ _ _ hb (fun e => hc (congrArg Addr.block e))).trans x5, (st_other _ _ _ _ _ _ hb (fun e => hc (congrArg Addr.block e))).trans x6, (st_other _ _ _ _ _ _ hb (fun e => hc (congrArg Addr.block e))).trans x7⟩
theorem Inv.stepA {w wr : World} {a0 a1 a2 x y : Int} (h : Inv w a0 a1 a2 x y wr) (v : Int) (o1 o2 o3 : Obj) : Inv w a0 a1 a2 v y ((((wr.setCell ⟨w.heap.size, 2, none⟩ (.int .i64 v)).alloc o1).alloc o2).alloc o3).drew := by
  obtain ⟨hB, hs, h1, h2, h3, h4⟩ := h
  exact ⟨st_below _ _ _ _ _ _ hB (Nat.le_refl _) (by omega), by rw [st_size]; omega, h1.own (by omega) v _ _ _, h2.other (by omega) (by omega) _ _ _ _, h3.other (by omega) (by omega) _ _ _ _, h4.other (by omega) (by omega) _ _ _ _⟩
theorem Inv.stepB {w wr : World} {a0 a1 a2 x y : Int} (h : Inv w a0 a1 a2 x y wr) (v : Int) (o1 o2 o3 : Obj) : Inv w a0 a1 a2 x v ((((wr.setCell ⟨w.heap.size + 1, 2, none⟩ (.int .i64 v)).alloc o1).alloc o2).alloc o3).drew := by
  obtain ⟨hB, hs, h1, h2, h3, h4⟩ := h
  exact ⟨st_below _ _ _ _ _ _ hB (by omega) (by omega), by rw [st_size]; omega, h1.other (by omega) (by omega) _ _ _ _, h2.own (by omega) v _ _ _, h3.other (by omega) (by omega) _ _ _ _, h4.other (by omega) (by omega) _ _ _ _⟩
def opCells (kd : Int) : Obj := .cells #[.int .i64 0, .int .u8 kd, .string ⟨#[]⟩, .string ⟨#[]⟩, .bool false, .int .i64 0, .int .i64 0, .bool false] 31
def clCells (a b c d : Int) : Obj := .cells #[.int .i64 a, .int .i64 b, .int .i64 c, .int .i64 d] 40
theorem Inv.start (w : World) (a0 a1 a2 : Int) : Inv w a0 a1 a2 a1 a2 ((((w.alloc (clCells a1 a0 a1 0)).alloc (clCells a2 a0 a2 0)).alloc (opCells 2)).alloc (opCells 3)) := by
  refine ⟨((((Below.refl _ _).alloc (by simp) _).alloc (by simp) _).alloc (by simp; omega) _).alloc (by simp; omega) _, by simp, ?_, ?_, ?_, ?_⟩
  · simp [Cli, clCells, opCells, go_sem]
  · simp [Cli, clCells, opCells, go_sem]
  · simp [OpA, clCells, opCells, go_sem]
  · simp [OpA, clCells, opCells, go_sem]
/-! the plain law -/
theorem mul_le_65535 (n : Nat) (a0 : Int) (hn : (n : Int) ≤ 65535) (c1 : 2 ≤ a0) (c2 : a0 ≤ 140737488355328) : 0 ≤ (n : Int) * a0 ∧ (n : Int) * a0 ≤ 65535 * 140737488355328 :=
  ⟨Int.mul_nonneg (by omega) (by omega), Int.mul_le_mul hn c2 (by omega) (by omega)⟩
theorem wrap_next (n : Nat) (a a0 : Int) (hn : (n : Int) + 1 ≤ 65535) (c1 : 2 ≤ a0) (c2 : a0 ≤ 140737488355328) (c3 : 0 ≤ a) (c4 : a < a0) : wrap64 (a + n * a0 + a0) = a + ((n + 1 : Nat) : Int) * a0 := by
  have h := mul_le_65535 (n + 1) a0 (by omega) c1 c2
  have e : ((n + 1 : Nat) : Int) * a0 = n * a0 + a0 := by rw [Int.natCast_add, Int.add_mul]; simp
  rw [e] at h ⊢
  generalize (n : Int) * a0 = z at *
  unfold wrap64
  omega
theorem apart (m n : Nat) (a b c : Int) (h0 : 0 ≤ a) (h1 : a < c) (h2 : 0 ≤ b) (h3 : b < c) (hne : (a == b) = false) : (a + m * c != b + n * c) = true := by
  simp only [bne_iff_ne, ne_eq, beq_eq_false_iff_ne] at *
  intro h
  apply hne
  have := congrArg (· % c) h
  simp only [Int.add_mul_emod_self_right] at this
  rwa [Int.emod_eq_of_lt h0 h1, Int.emod_eq_of_lt h2 h3] at this

set_option maxHeartbeats 400000 in
theorem walk_on (a0 : Int) (a1 : Int) (a2 : Int) (a3 : Int) (a4 : Int) (hj3 : 0 ≤ a3 ∧ a3 ≤ 65535) (hj4 : 0 ≤ a4 ∧ a4 ≤ 65535) (w : World)
  (c7 : (a1 == a2) = false) (c1 : 2 ≤ a0) (c2 : a0 ≤ 140737488355328) (c3 : 0 ≤ a1) (c4 : a1 < a0) (c5 : 0 ≤ a2) (c6 : a2 < a0)  :
    Calls Try.prog 4 #[.int .i64 a0, .int .i64 a1, .int .i64 a2, .int .u16 a3, .int .u16 a4] w fun e w' => e = .returned (.bool true) ∧ Below w.heap.size w w' := by
  go_enter Try.func4, Try.ntmps4
  go_wp2_with (go_at_call 6; refine (new_any _ _ _ _ _).mono ?_; rintro e w' ⟨rfl, rfl⟩)
  go_loopw [15] (fun k wr => ∃ n : Nat, n ≤ a3 ∧ k = .int .u16 n ∧ Inv w a0 a1 a2 (a1 + n * a0) a2 wr) (fun k _ => (a3 - intOf k).toNat)
  case atStart => 
    refine ⟨0, by omega, rfl, ?_⟩
    have h := Inv.start w a0 a1 a2
    simpa [opCells, clCells] using h
  case round =>
    obtain ⟨n, hn, rfl, hI⟩ := hrel
    have HI := hI
    obtain ⟨hB, hs, ⟨p0, p1, p2, p3, p4⟩, ⟨q0, q1, q2, q3, q4⟩, ⟨x0, x1, x2, x3, x4, x5, x6, x7⟩, ⟨y0, y1, y2, y3, y4, y5, y6, y7⟩⟩ := hI
    by_cases hlt : (n : Int) < a3
    · go_wp2_with (go_at_call 7; refine (end_fail _ _ _ _ _ _ _ _ _ _ _ _ _ p1 p2 p4 (by omega) (by rfl)).mono ?_; rintro e w' ⟨rfl, rfl⟩)
      go_roundw
      case rel => 
        refine ⟨n + 1, by omega, by go_num, ?_⟩
        rw [wrap_next n a1 a0 (by omega) c1 c2 c3 c4]
        exact HI.stepA _ _ _ _
      case measure => simp [intOf]; omega
    · clear p0 p1 p2 p3 p4 q0 q1 q2 q3 q4 x0 x1 x2 x3 x4 x5 x6 x7 y0 y1 y2 y3 y4 y5 y6 y7
      go_wp2
      go_loopw [18] (fun k ws => ∃ m : Nat, m ≤ a4 ∧ k = .int .u16 m ∧ Inv w a0 a1 a2 (a1 + n * a0) (a2 + m * a0) ws) (fun k _ => (a4 - intOf k).toNat)
      case atStart => 
        refine ⟨0, by omega, rfl, ?_⟩
        simpa using HI
      case round =>
        obtain ⟨m, hm, rfl, hJ⟩ := hrel
        have HJ := hJ
        obtain ⟨hB', hs', ⟨p0, p1, p2, p3, p4⟩, ⟨q0, q1, q2, q3, q4⟩, ⟨x0, x1, x2, x3, x4, x5, x6, x7⟩, ⟨y0, y1, y2, y3, y4, y5, y6, y7⟩⟩ := hJ
        by_cases hlt' : (m : Int) < a4
        · go_wp2_with (go_at_call 7; refine (end_fail _ _ _ _ _ _ _ _ _ _ _ _ _ q1 q2 q4 (by omega) (by rfl)).mono ?_; rintro e w' ⟨rfl, rfl⟩)
          go_roundw
          case rel => 
            refine ⟨m + 1, by omega, by go_num, ?_⟩
            rw [wrap_next m a2 a0 (by omega) c1 c2 c5 c6]
            exact HJ.stepB _ _ _ _
          case measure => simp [intOf]; omega
        · have en : a3 = n := by omega
          have em : a4 = m := by omega
          subst en em
          have b1 := mul_le_65535 n a0 hj3.2 c1 c2
          have b2 := mul_le_65535 m a0 hj4.2 c1 c2
          have hne := apart n m a1 a2 a0 c3 c4 c5 c6 c7
          go_wp2_with fail
          refine (fields_any _ _ _ _ _ _ p0 p1 p2 p3).mono ?_
          rintro e w' ⟨rfl, n1, rfl⟩
          go_wp2_with fail
          refine (fields_any _ a2 a0 (a2 + m * a0) 0 _ (by simpa using q0) (by simpa using q1) (by simpa using q2) (by simpa using q3)).mono ?_
          rintro e w' ⟨rfl, n2, rfl⟩
          go_wp2
          go_ret
          exact ⟨rfl, below_draws hB' _⟩

theorem walk (a0 : Int) (a1 : Int) (a2 : Int) (a3 : Int) (a4 : Int) (w3 : (Lit.int .u16 a3).wf = true) (w4 : (Lit.int .u16 a4).wf = true) (w : World) :
    Calls Try.prog 4 #[.int .i64 a0, .int .i64 a1, .int .i64 a2, .int .u16 a3, .int .u16 a4] w fun e w' => e = .returned (.bool true) ∧ Below w.heap.size w w' := by
  have hj3 := bounds_u16 w3
  have hj4 := bounds_u16 w4
  by_cases c1 : a0 < 2
  · go_enter Try.func4, Try.ntmps4
    go_wp2
    go_ret
    exact ⟨rfl, Below.refl _ _⟩
  by_cases c2 : 140737488355328 < a0
  · go_enter Try.func4, Try.ntmps4
    go_wp2
    go_ret
    exact ⟨rfl, Below.refl _ _⟩
  by_cases c3 : a1 < 0
  · go_enter Try.func4, Try.ntmps4
    go_wp2
    go_ret
    exact ⟨rfl, Below.refl _ _⟩
  by_cases c4 : a0 ≤ a1
  · go_enter Try.func4, Try.ntmps4
    go_wp2
    go_ret
    exact ⟨rfl, Below.refl _ _⟩
  by_cases c5 : a2 < 0
  · go_enter Try.func4, Try.ntmps4
    go_wp2
    go_ret
    exact ⟨rfl, Below.refl _ _⟩
  by_cases c6 : a0 ≤ a2
  · go_enter Try.func4, Try.ntmps4
    go_wp2
    go_ret
    exact ⟨rfl, Below.refl _ _⟩
  by_cases c7 : (a1 == a2) = true
  · go_enter Try.func4, Try.ntmps4
    go_wp2
    go_ret
    exact ⟨rfl, Below.refl _ _⟩
  exact walk_on a0 a1 a2 a3 a4 hj3 hj4 w (by simpa using c7) (by omega) (by omega) (by omega) (by omega) (by omega) (by omega)

/-! ### THE ROW's STEP: WRITTEN OUT: LEAVE IT -/
set_option maxRecDepth 100000 in
theorem lifted (os : Os) (started : os.Started) (H : Type) (enc : TypeId × Value → H) :
    ReturnsInHanded {} Try.checked os 4 .any (Rows.fnClientEndFailedIDsStayApartSpec.pre6 enc Try.prog Try.f4 Rows.fnClientEndFailedIDsStayApartRow.domain false) (Rows.fnClientEndFailedIDsStayApartSpec.post enc Try.prog Try.f4 false true false false) := by
  refine returnsInHanded_of_change (C := Try.checked) own started (by kernel_rfl) Try.func4
    (ChangeSpec.witness6 (enc := enc) (C := Try.checked) false ⟨#[], #[.int .i64 0, .int .i64 0, .int .i64 0, .int .u16 0, .int .u16 0], []⟩ 8 (by kernel_rfl) (by kernel_rfl) (by kernel_rfl) (by kernel_rfl)) ?_
  intro W base args ds gs before hval0 hW hcnd _
  have hval : ∀ (j : Nat) t v, Try.f4.params[j]? = some t → args[j]? = some v → Value.okWide Try.prog W .any base t v := hval0
  have hW' := hW
  obtain ⟨p, q, hA0, hV, rfl, hfz, hnd⟩ := hW
  have hA : DataW.TrodAll enc Try.prog W 0 (fun _ => true) true Try.f4.params.toList args.toList ds p := hA0
  rw [Try.params4] at hA hval
  obtain ⟨v0, vs0, d0, ds0, p0, q0, hargs, rfl, rfl, h0, r0⟩ := trodAll_cons hA
  obtain ⟨v1, vs1, d1, ds1, p1, q1, rfl, rfl, rfl, h1, r1⟩ := trodAll_cons r0
  obtain ⟨v2, vs2, d2, ds2, p2, q2, rfl, rfl, rfl, h2, r2⟩ := trodAll_cons r1
  obtain ⟨v3, vs3, d3, ds3, p3, q3, rfl, rfl, rfl, h3, r3⟩ := trodAll_cons r2
  obtain ⟨v4, vs4, d4, ds4, p4, q4, rfl, rfl, rfl, h4, r4⟩ := trodAll_cons r3
  obtain ⟨rfl, rfl, rfl⟩ := trodAll_nil r4
  obtain rfl : args = #[v0, v1, v2, v3, v4] := by cases args; simp_all
  obtain ⟨rfl, rfl⟩ := trodVars_none hV
  obtain ⟨a0, rfl, rfl, rfl, w0⟩ := open_int Try.underlying3 (hval 0 3 v0 rfl rfl) h0
  obtain ⟨a1, rfl, rfl, rfl, w1⟩ := open_int Try.underlying3 (hval 1 3 v1 rfl rfl) h1
  obtain ⟨a2, rfl, rfl, rfl, w2⟩ := open_int Try.underlying3 (hval 2 3 v2 rfl rfl) h2
  obtain ⟨a3, rfl, rfl, rfl, w3⟩ := open_int Try.underlying37 (hval 3 37 v3 rfl rfl) h3
  obtain ⟨a4, rfl, rfl, rfl, w4⟩ := open_int Try.underlying37 (hval 4 37 v4 rfl rfl) h4
  clear hA0 hval0
  simp only [List.append_nil] at hW'
  refine (walk a0 a1 a2 a3 a4 w3 w4 W).mono fun e W' ⟨he, bel⟩ => ?_
  subst he
  exact ⟨_, rfl, _, _, _, [], _, [], hW', trodAll_mk1 (shut_bool Try.underlying4 _), (trodAll_cons_mk (shut_int Try.underlying3 w0) (trodAll_cons_mk (shut_int Try.underlying3 w1) (trodAll_cons_mk (shut_int Try.underlying3 w2) (trodAll_cons_mk (shut_int Try.underlying37 w3) (trodAll_cons_mk (shut_int Try.underlying37 w4) trodAll_mk0))))), rfl, bel.frame _, fun h => by cases h⟩

theorem over : Rows.fnClientEndFailedIDsStayApartRow.holds Try.pinned (OpenSpec.ofChange Rows.fnClientEndFailedIDsStayApartSpec) :=
  OpenClaim.holds_of_wide 4 Try.f4 rfl rfl rfl rfl rfl rfl rfl ⟨rfl, rfl, rfl, rfl, rfl⟩ rfl rfl rfl rfl rfl (by kernel_rfl) Try.func4 (by kernel_rfl)
    (of_decide_eq_true (by kernel_rfl)) (by unfold Func.isWrapper; first | (rw [if_pos (by decide +kernel)]; kernel_rfl) | (rw [if_neg (by decide +kernel)]; exact ⟨rfl, rfl⟩))
    (fun os started H enc _ => lifted os started H enc)

/-- ████ THE STATEMENT ████ -/
theorem proved : Rows.FnClientEndFailedIDsStayApartSaid :=
  over
end Go.Proofs.Qxb6604035a.fnClientEndFailedIDsStayApart
