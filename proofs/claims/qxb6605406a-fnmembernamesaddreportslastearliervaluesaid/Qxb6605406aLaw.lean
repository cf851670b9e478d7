/-
  FnMemberNamesAddReportsLastEarlierValue (7), walked out of the contracts: at least one member.
-/
import Derived.Test.Qxb6605406aMembers
import Derived.Test.Qxb6605406aBytes
namespace Go.Proofs.Qxb6605406a
open Go.RowKit
def gN (M : Nat → Mem) : Nat → ByteArray → Option Int
  | 0 => fun _ => none
  | k + 1 => upd (gN M k) (M k).name (M k).va
/-- what is known of the members that came in -/
def Came (w : World) (b off len : Nat) (M : Nat → Mem) : Prop := ∀ i, i < len → MemAt w b (off + i * 4) (M i) ∧ ByteRow w (M i).vs (M i).vl ∧ (M i).name.size ≤ 9223372036854775807 ∧ (M i).vl ≤ 9223372036854775807 ∧ (Lit.int .i64 (M i).va).wf = true
def zeros43 : Array Value := #[.string ⟨#[]⟩, .int .i64 0, .string ⟨#[]⟩, .int .i64 0, .string ⟨#[]⟩, .int .i64 0, .string ⟨#[]⟩, .int .i64 0, .string ⟨#[]⟩, .int .i64 0, .string ⟨#[]⟩, .int .i64 0, .string ⟨#[]⟩, .int .i64 0, .string ⟨#[]⟩, .int .i64 0, .int .i64 0, .map none]
theorem rep_start (w : World) : Rep (w.alloc (.cells zeros43 43)) w.heap.size 0 (fun _ => none) := by
  refine .inl ⟨[], ⟨by simp, by simp, ?_, ?_, fun i p h => by simp at h, fun i p h => by simp at h, fun i hi => ?_, fun i => ?_⟩, List.Pairwise.nil, fun p h => by simp at h, funext fun t => rfl⟩
  · rw [World.cell?_alloc_new]; rfl
  · rw [World.cell?_alloc_new]; rfl
  · rw [World.cell?_alloc_new]
    have h18 : i < zeros43.size := hi
    exact ⟨zeros43[i], Array.getElem?_eq_getElem h18⟩
  · have e : (w.alloc (.cells zeros43 43)).heap[w.heap.size]? = some (.cells zeros43 43) := (MapKept.heap_alloc w _).1
    unfold World.frozen?
    rw [e]
    simp
theorem Copy.below {w w' : World} {B G k : Nat} {M : Nat → Mem} (h : Copy w G k M) (hB : Below B w w') (hG : G < B) : Copy w' G k M := fun j hj => by
  obtain ⟨a, n, c, hm⟩ := h j hj
  exact ⟨a, n, c, hm.below hB hG⟩
theorem Rep.lt {w : World} {N c : Nat} {g : ByteArray → Option Int} (h : Rep w N c g) : N < w.heap.size := by
  rcases h with ⟨al, hF, _⟩ | ⟨G, k, D, hN, _⟩
  · exact hF.lt
  · exact hN
theorem Few.drewN {w : World} {N : Nat} {al : List (ByteArray × Int)} (h : Few w N al) (n : Nat) : Few (w.drewN n) N al := ⟨h.lt, h.len, h.many, h.used, h.name, h.val, h.cells, h.frozen⟩
theorem Rep.drewN {w : World} {N c : Nat} {g : ByteArray → Option Int} (h : Rep w N c g) (n : Nat) : Rep (w.drewN n) N c g := by
  rcases h with ⟨al, hF, r⟩ | ⟨G, k, D, h1, h2, h3, h4, r⟩
  · exact .inl ⟨al, hF.drewN n, r⟩
  · exact .inr ⟨G, k, D, h1, h2, h3, h4, r⟩
theorem Rep.drew {w : World} {N c : Nat} {g : ByteArray → Option Int} (h : Rep w N c g) : Rep w.drew N c g := h.drewN 1
theorem gN_hit {M : Nat → Mem} {j : Nat} {s : ByteArray} (h : ((M j).name.toList == s.toList) = true) : gN M (j + 1) s = some (M j).va := by
  show upd (gN M j) (M j).name (M j).va s = _
  unfold upd
  rw [if_pos (show key s ((M j).name, 0) = true from h)]
theorem gN_miss {M : Nat → Mem} {j : Nat} {s : ByteArray} (h : ((M j).name.toList == s.toList) = false) : gN M (j + 1) s = gN M j s := by
  show upd (gN M j) (M j).name (M j).va s = _
  unfold upd
  rw [if_neg (by rw [show key s ((M j).name, 0) = false from h]; simp)]
theorem below_undrew' {B : Nat} {w w1 : World} (h : Below B w.drew w1) : Below B w w1 := ⟨h.os, h.tape, h.output, h.size, h.block⟩
set_option maxRecDepth 100000 in
set_option maxHeartbeats 1000000 in
theorem law_some (w : World) (b off len cap : Nat) (M : Nat → Mem) (hn : len ≤ 9223372036854775807) (hM : Came w b off len M) :
    Calls Try.prog 7 #[.slice (some ⟨b, off, none⟩) len cap] w fun e w' => e = .returned (.bool true) ∧ Below w.heap.size w w' := by
  have C21 : Hid (Calls Try.prog 21 #[.slice (some ⟨b, off, none⟩) len cap] w fun e w' => ∃ r : Bool, e = .returned (.bool r) ∧ ∃ n, w' = w.drewN n) :=
    bytes21 w b off len cap (fun i => (M i).name) (fun i => (M i).vs) (fun i => (M i).vl) (fun i => (M i).vc) hn (fun i hi => (hM i hi).1.1) (fun i hi => (hM i hi).1.2.2.2) (fun i hi => ⟨(hM i hi).2.2.1, (hM i hi).2.2.2.1⟩)
  have HM : Hid (Came w b off len M) := hM
  clear hM
  go_enter Try.func7, Try.ntmps7
  go_wp2_with fail
  refine C21.out.mono ?_
  rintro e w1 ⟨r, rfl, n0, rfl⟩
  cases r with
  | false =>
    go_wp2
    go_ret
    exact ⟨rfl, below_draws (Below.refl _ _) _⟩
  | true =>
    by_cases hlen : len ≤ 4096
    case neg =>
      go_wp2
      go_ret
      exact ⟨rfl, below_draws (Below.refl _ _) _⟩
    go_wp2
    go_loopw [3, 4] (fun t i wr => ∃ (k n tt : Nat), k ≤ len ∧ tt ≤ 1048576 ∧ t = .int .i64 tt ∧ i = .int .i64 k ∧ wr = w.drewN n ∧ ∀ j, j < k → (M j).vl ≤ 1048576) (fun _ i _ => len - (intOf i).toNat)
    case atStart => exact ⟨0, n0, 0, Nat.zero_le _, Nat.zero_le _, rfl, rfl, rfl, fun j hj => by omega⟩
    case round =>
      obtain ⟨k, n, tt, hk, htt, rfl, rfl, rfl, hv⟩ := hrel
      have HV : Hid (∀ j, j < k → (M j).vl ≤ 1048576) := hv
      clear hv
      by_cases hlt : k < len
      · obtain ⟨⟨c0, c1, c2, c3⟩, hrow, z1, z2, z3⟩ := HM.out k hlt
        have hki : (k : Int) < (len : Int) := by omega
        generalize hMk : M k = m at *
        have HMK : Hid (M k = m) := hMk
        clear hMk c1 c2 hrow z3
        obtain ⟨nm, na, va, vs, vl, vc⟩ := m
        by_cases q1 : nm.size ≤ 1048576
        · by_cases q2 : vl ≤ 1048576
          · by_cases q3 : tt + (56 + nm.size + vl) ≤ 1048576
            · go_wp2
              go_quiet (fail)
              go_wp2
              go_roundw
              case rel => exact ⟨k + 1, n + nq, tt + (56 + nm.size + vl), by omega, q3, by go_num, by go_num, by simp, fun j hj => by
                by_cases e : j = k
                · subst e; rw [HMK.out]; exact q2
                · exact HV.out j (by omega)⟩
              case measure => simp [intOf]; omega
            · go_wp2
              go_quiet (fail)
              go_wp2
              go_ret
              exact ⟨rfl, below_draws (Below.refl _ _) _⟩
          · go_wp2
            go_ret
            exact ⟨rfl, below_draws (Below.refl _ _) _⟩
        · go_wp2
          go_ret
          exact ⟨rfl, below_draws (Below.refl _ _) _⟩
      · have ek : k = len := by omega
        subst ek
        have C22 : Hid (Calls Try.prog 22 #[.slice (some ⟨b, off, none⟩) k cap] (w.drewN n) fun e w' => e = .returned (.slice (some ⟨w.heap.size, 0, none⟩) k k) ∧ Below w.heap.size w w' ∧ w.heap.size < w'.heap.size ∧ Copy w' w.heap.size k M) :=
          (members_some (w.drewN n) b off k cap M hlen (fun i hi => ⟨(HM.out i hi).1, HV.out i hi, (HM.out i hi).2.1⟩)).mono fun e w' ⟨he, hB, hs, hC⟩ => ⟨he, ⟨hB.os, hB.tape, hB.output, hB.size, hB.block⟩, hs, hC⟩
        clear HV hlt
        go_wp2_with fail
        refine C22.out.mono ?_
        rintro e w2 ⟨rfl, hB2, hs2, hC2⟩
        have hRs := rep_start w2
        have HRs : Hid (Rep (w2.alloc (.cells zeros43 43)) w2.heap.size 0 (fun _ => none)) := hRs
        have HC2 : Hid (Copy w2 w.heap.size k M) := hC2
        have hko : k ≤ 4096 := hlen
        clear hRs hC2 C21 C22
        go_wp2
        generalize hNN : w2.heap.size = N at *
        have HNN : Hid (w2.heap.size = N) := hNN
        clear hNN
        go_loopw [6] (fun i wr => ∃ j : Nat, j ≤ k ∧ i = .int .i64 j ∧ Rep wr N j (gN M j) ∧ Copy wr w.heap.size k M ∧ Below w.heap.size w wr) (fun i _ => k - (intOf i).toNat)
        case atStart =>
          refine ⟨0, Nat.zero_le _, rfl, HRs.out, ?_, hB2.alloc (by have := HNN.out; omega) _⟩
          exact HC2.out.below ((Below.refl _ _).alloc (Nat.le_refl _) _) (by have := HNN.out; omega)
        case round =>
          obtain ⟨i, hi, rfl, hR, hC, hB⟩ := hrel
          have HR : Hid (Rep wr N i (gN M i)) := hR
          have HC : Hid (Copy wr w.heap.size k M) := hC
          have hNw : N < wr.heap.size := hR.lt
          clear hR HRs HC2 hB2
          by_cases hlt : i < k
          · obtain ⟨_, _, z1, z2, z3⟩ := HM.out i hlt
            obtain ⟨a, n1, c, s0, s1, s2, s3⟩ := hC i hlt
            have hii : (i : Int) < (k : Int) := by omega
            have C23 : Hid (Calls Try.prog 23 #[.pointer (some ⟨N, 0, none⟩), .string (M i).name, .int .i64 (M i).na, .int .i64 (M i).va, .slice a n1 c] wr.drew fun e w' => e = .returned (.tuple #[.int .i64 ((gN M i (M i).name).getD 0), .bool (gN M i (M i).name).isSome]) ∧ Rep w' N (i + 1) (gN M (i + 1)) ∧ Below N wr.drew w') :=
              zzadd_any N i (gN M i) (M i).name (M i).na (M i).va a n1 c wr.drew HR.out.drew (by omega) z1 z3
            generalize hr1 : (gN M i (M i).name).getD 0 = r1 at *
            generalize hr2 : (gN M i (M i).name).isSome = r2 at *
            generalize hnm : (M i).name = nm at *
            generalize (M i).na = na at *
            generalize hva : (M i).va = va at *
            have HR1 : Hid ((gN M i nm).getD 0 = r1) := hr1
            have HR2 : Hid ((gN M i nm).isSome = r2) := hr2
            have HNM : Hid ((M i).name = nm) := hnm
            have HVA : Hid ((M i).va = va) := hva
            clear hr1 hr2 hnm hva hC z1 z2 z3
            have hGN : w.heap.size < N := by have := HNN.out; omega
            go_wp2
            go_region_held (fun w' => w'.cell? ⟨w.heap.size, i * 4, none⟩ = some (.string nm) ∧ w'.cell? ⟨w.heap.size, i * 4 + 1, none⟩ = some (.int .i64 na) ∧ w'.cell? ⟨w.heap.size, i * 4 + 2, none⟩ = some (.int .i64 va) ∧ w'.cell? ⟨w.heap.size, i * 4 + 3, none⟩ = some (.slice a n1 c)) (first | exact ⟨s0, s1, s2, s3⟩ | exact ⟨t0, t1, t2, t3⟩)
              (first | (go_at_call 23; go_must (refine C23.out.mono ?_); go_must (rintro e w3 ⟨rfl, hR3, hB3'⟩); go_must (have hB3 : Below N wr w3 := below_undrew' hB3'); clear hB3'; go_must (have t0 := (hB3.cell (p := ⟨w.heap.size, i * 4, none⟩) hGN).trans s0; have t1 := (hB3.cell (p := ⟨w.heap.size, i * 4 + 1, none⟩) hGN).trans s1; have t2 := (hB3.cell (p := ⟨w.heap.size, i * 4 + 2, none⟩) hGN).trans s2; have t3 := (hB3.cell (p := ⟨w.heap.size, i * 4 + 3, none⟩) hGN).trans s3; have HR3 : Hid (Rep w3 N (i + 1) (gN M (i + 1))) := hR3; clear hR3)))
            all_goals go_wp2
            have hC3 : Copy w3 w.heap.size k M := HC.out.below hB3 hGN
            have hB4 : Below w.heap.size w w3 := hB.trans (hB3.mono (by omega))
            have HC3 : Hid (Copy w3 w.heap.size k M) := hC3
            have v0 := t0
            clear hC3 HC HR HNN s0 s1 s2 s3 t0 t1 t2 t3 hB3 hB
            go_loopw [9, 10, 11] (fun s9 s10 s11 wx => ∃ n5 : Nat, s9 = .int .i64 0 ∧ s10 = .bool false ∧ wx = w3.drewN n5 ∧ ((∃ j : Nat, j < i ∧ s11 = .int .i64 (j : Int) ∧ gN M i nm = gN M (j + 1) nm) ∨ (s11 = .int .i64 (-1) ∧ gN M i nm = none))) (fun _ _ s11 _ => (intOf s11 + 1).toNat)
            case atStart =>
              refine ⟨0, rfl, rfl, rfl, ?_⟩
              by_cases h0 : i = 0
              · exact .inr ⟨congrArg (Value.int .i64) (by omega), by rw [h0]; rfl⟩
              · exact .inl ⟨i - 1, by omega, congrArg (Value.int .i64) (by omega), by rw [show i - 1 + 1 = i from by omega]⟩
            case round =>
              obtain ⟨n5, rfl, rfl, rfl, hor⟩ := hrel
              rcases hor with ⟨j, hj, rfl, hg⟩ | ⟨rfl, hg⟩
              · have HG : Hid (gN M i nm = gN M (j + 1) nm) := hg
                obtain ⟨a2, n2, c2, x0, x1, x2, x3⟩ := HC3.out j (by omega)
                have hjk : (j : Int) < (k : Int) := by omega
                have hik : (i : Int) < (k : Int) := by omega
                have HT : Hid (((M j).name.toList == nm.toList) = true → gN M (j + 1) nm = some (M j).va) := gN_hit
                have HF : Hid (((M j).name.toList == nm.toList) = false → gN M (j + 1) nm = gN M j nm) := gN_miss
                generalize (M j).name = jn at *
                generalize (M j).va = jv at *
                clear hg x1 x3
                cases hq : (jn.toList == nm.toList) with
                | true =>
                  have e := HG.out.trans (HT.out hq)
                  have q1 : (r1 != jv) = false := by rw [← HR1.out, e]; simp
                  have q2 : (!r2) = false := by rw [← HR2.out, e]; simp
                  clear e
                  go_wp2
                  go_quiet (fail)
                  go_wp2
                  go_roundw
                  case rel => exact ⟨i + 1, by omega, by go_num, HR3.out.drewN _, HC3.out, below_draws hB4 _⟩
                  case measure => simp [intOf]; omega
                | false =>
                  go_wp2
                  go_quiet (fail)
                  go_wp2
                  go_roundw
                  case rel =>
                    refine ⟨n5 + nq, rfl, rfl, by simp, ?_⟩
                    have e := HG.out.trans (HF.out hq)
                    by_cases h0 : j = 0
                    · exact .inr ⟨congrArg (Value.int .i64) (by omega), by rw [e, h0]; rfl⟩
                    · exact .inl ⟨j - 1, by omega, congrArg (Value.int .i64) (by omega), by rw [e, show j - 1 + 1 = j from by omega]⟩
                  case measure => simp [intOf] <;> omega
              · have q1 : (r1 != 0) = false := by rw [← HR1.out, hg]; simp
                have q2 : r2 = false := by rw [← HR2.out, hg]; rfl
                clear hg
                go_wp2
                go_roundw
                case rel => exact ⟨i + 1, by omega, by go_num, HR3.out.drewN _, HC3.out, below_draws hB4 _⟩
                case measure => simp [intOf]; omega
          · clear HC HR HNN
            go_wp2
            go_ret
            exact ⟨rfl, hB⟩
end Go.Proofs.Qxb6605406a
