/-
  fixedDivModel (7) and FnFixedMatchesDivisionModel (3), walked.
-/
import Derived.Test.Qxb6605193aDoorModelMem
import Derived.Test.Qxb6605193aDoorFixed
import Derived.BigQuiet
import Derived.Deep.QuietTactic
import Derived.BigRegion
import Derived.Deep.DeepCutAuto
namespace Go.Proofs.Qxb6605193aDoor
open Go.RowKit
theorem by8_dgt (q : Nat) : Value.int .u8 (48 + (q : Int) % 10) = by8 (dgt q) := by
  unfold by8; rw [dgt_toNat]; congr 1
theorem len3 (k u : Nat) (W : List UInt8) : ((low k u).reverse ++ [46] ++ W).length = k + 1 + W.length := by
  simp [low_length]; omega
theorem make_room (p : Nat) (hp : p ≤ 65536) (w : World) : (Instr.makeSlice 25 (.int .i64 0) (.int .i64 ((p : Int) + 24))).run Tryd.prog w = .ok (.slice (some ⟨w.heap.size, 0, none⟩) 0 (p + 24)) (w.alloc (.cells (madeCells #[.int .u8 0] (p + 24)) 5)) := by
  obtain ⟨i0, hi, hz0, hz1, hz2⟩ := info_parts Tryd.info5
  have h := run_make (P := Tryd.prog) w 25 5 i0 (.int .u8 0) Tryd.underlying25 hi hz0 .i64 .i64 0 ((p : Int) + 24) (Int.le_refl _) (by omega) (by rw [hz2]; omega) (by omega)
  rw [h, hz1]
  have e : ((p : Int) + 24).toNat = p + 24 := by omega
  rw [e, Nat.mul_one]
  rfl
set_option maxRecDepth 100000 in
set_option maxHeartbeats 1000000 in
theorem model_walk (v : Int) (h0 : -9223372036854775808 ≤ v) (h1 : v ≤ 9223372036854775807) (p : Nat) (hp : p ≤ 65536) (w : World) :
    Calls Tryd.prog 7 #[.int .i64 v, .int .i64 (p : Int)] w fun e w' => e = .returned (.string ⟨(fixedL v p).toArray⟩) ∧ Below w.heap.size w w' := by
  have hmk := make_room p hp
  go_enter Tryd.func7, Tryd.ntmps7
  go_upto_if 12 with fail
  go_cut [5] (fun s w1 => s = .int .u64 (v.natAbs : Int) ∧ w = w1)
  case first =>
    go_wp2_with fail
    all_goals (go_meet; case rel => exact ⟨congrArg (Value.int .u64) (by omega), rfl⟩)
  case rest =>
    obtain ⟨rfl, rfl⟩ := hcut
    go_wp2
    go_loopw [5, 6, 7] (fun m s i wr => ∃ k : Nat, k ≤ p ∧ m = .int .u64 ((v.natAbs / 10 ^ k : Nat) : Int) ∧ s = .slice (some ⟨w.heap.size, 0, none⟩) k (p + 24) ∧ i = .int .i64 k ∧ Buf w (p + 24) (low k v.natAbs).reverse wr) (fun _ _ i _ => p - (intOf i).toNat)
    case atStart => exact ⟨0, Nat.zero_le _, by simp, rfl, rfl, Buf.start w (p + 24)⟩
    case round =>
      obtain ⟨k, hk, rfl, rfl, rfl, hB⟩ := hrel
      have HB : Hid (Buf w (p + 24) (low k v.natAbs).reverse wr) := hB
      have hw : w.heap.size < wr.heap.size := hB.2.1
      have hf := hB.2.2.2.1 k
      obtain ⟨vv, hv⟩ := hB.2.2.1 k (by omega)
      have hq : v.natAbs / 10 ^ k ≤ 9223372036854775808 := Nat.le_trans (Nat.div_le_self _ _) (by omega)
      clear hmk hB
      by_cases hlt : k < p
      · have HX : Hid ((low (k + 1) v.natAbs).reverse = (low k v.natAbs).reverse ++ [dgt (v.natAbs / 10 ^ k)]) := low_rev k v.natAbs
        have HN : Hid (v.natAbs / 10 ^ k / 10 = v.natAbs / 10 ^ (k + 1)) := div_next k v.natAbs
        generalize v.natAbs / 10 ^ k = q at *
        go_wp2
        go_roundw
        case rel =>
          refine ⟨k + 1, by omega, ?_, rfl, by go_num, ?_⟩
          · rw [← HN.out]; exact congrArg (Value.int .u64) (by omega)
          · rw [HX.out, by8_dgt]
            have h := HB.out.snoc (by simp [low_length]; omega) (dgt q) (.cells #[by8 (dgt q)] 5)
            simpa [low_length] using h
        case measure => simp [intOf]; omega
      · have ek : k = p := by omega
        subst ek
        have HL : Hid (Lib.decDigits (v.natAbs / 10 ^ k) = Lib.decDigits (v.natAbs / 10 ^ k)) := rfl
        generalize hU : v.natAbs / 10 ^ k = U at *
        have HU : Hid (v.natAbs / 10 ^ k = U) := hU
        clear hU
        have hUl : U ≤ 9223372036854775808 := hq
        have h46 : by8 46 = Value.int .u8 46 := rfl
        have H46 : Hid (by8 46 = Value.int .u8 46) := h46
        clear h46 hq hlt
        go_upto_region 11 with fail
        go_cut [6] (fun s w1 => s = .slice (some ⟨w.heap.size, 0, none⟩) (k + 1) (k + 24) ∧ Buf w (k + 24) ((low k v.natAbs).reverse ++ [46]) w1)
        case first =>
          go_wp2
          go_meet
          case rel =>
            refine ⟨rfl, ?_⟩
            have h := HB.out.snoc (by simp [low_length]) 46 (.cells #[by8 46] 5)
            rw [H46.out] at h
            simpa [low_length] using h
        case rest =>
          obtain ⟨rfl, hB2⟩ := hcut
          clear hv hf hw HB
          have HB2 : Hid (Buf w (k + 24) ((low k v.natAbs).reverse ++ [46]) wc) := hB2
          have hw : w.heap.size < wc.heap.size := hB2.2.1
          have hf := hB2.2.2.2.1 (k + 1)
          obtain ⟨v1, hv⟩ := hB2.2.2.1 (k + 1) (by omega)
          clear hB2
          go_upto_if 41 with fail
          go_cut [6] (fun s w1 => ∃ W : List UInt8, Bond U U W ∧ s = .slice (some ⟨w.heap.size, 0, none⟩) (k + 1 + W.length) (k + 24) ∧ Buf w (k + 24) ((low k v.natAbs).reverse ++ [46] ++ W) w1)
          case first =>
            by_cases hz : U = 0
            · subst hz
              go_wp2
              go_meet
              case rel =>
                refine ⟨[48], Bond.zero, rfl, ?_⟩
                have h := HB2.out.snoc (by simp [low_length]) 48 (.cells #[by8 48] 5)
                have h48 : by8 48 = Value.int .u8 48 := rfl
                rw [h48] at h
                simpa [low_length] using h
            · have hzb : (((U : Nat) : Int) == 0) = false := by rw [beq_eq_false_iff_ne]; omega
              go_wp2
              go_meet
              case rel => exact ⟨[], Bond.start U hz, by simp, by simpa using HB2.out⟩
          case rest =>
            clear hv hf hw HB2
            obtain ⟨W0, hbond0, rfl, hB3⟩ := hcut
            have hdU : (Lib.decDigits U).length ≤ 20 := dec_len 19 U (by omega)
            have HdU : Hid ((Lib.decDigits U).length ≤ 20) := hdU
            have Hbond0 : Hid (Bond U U W0) := hbond0
            have HB3 : Hid (Buf w (k + 24) ((low k v.natAbs).reverse ++ [46] ++ W0) wc) := hB3
            clear hbond0 hdU hB3
            go_wp2
            go_loopw [5, 6] (fun s5 s6 wr => ∃ (m : Nat) (W : List UInt8), m ≤ U ∧ Bond U m W ∧ s5 = .int .u64 (m : Int) ∧ s6 = .slice (some ⟨w.heap.size, 0, none⟩) (k + 1 + W.length) (k + 24) ∧ Buf w (k + 24) ((low k v.natAbs).reverse ++ [46] ++ W) wr) (fun s5 _ _ => (intOf s5).toNat)
            case atStart => exact ⟨U, W0, Nat.le_refl _, Hbond0.out, rfl, rfl, HB3.out⟩
            case round =>
              obtain ⟨m, W, hm, hbond, rfl, rfl, hB⟩ := hrel
              clear HB3 Hbond0
              have HB : Hid (Buf w (k + 24) ((low k v.natAbs).reverse ++ [46] ++ W) wr) := hB
              have HBd : Hid (Bond U m W) := hbond
              have hbl := hbond.len
              have hdU := HdU.out
              have hWl : W.length ≤ 20 := by omega
              have hw : w.heap.size < wr.heap.size := hB.2.1
              have hf := hB.2.2.2.1 (k + 1 + W.length)
              obtain ⟨v1, hv⟩ := hB.2.2.1 (k + 1 + W.length) (by omega)
              by_cases hpos : 0 < m
              · have hrp := rest_pos m hpos
                have hWs : W.length ≤ 19 := by omega
                clear hB hbond hbl hrp hdU
                go_wp2
                go_roundw
                case rel =>
                  refine ⟨m / 10, W ++ [dgt m], by omega, HBd.out.step hpos, congrArg (Value.int .u64) (by omega), by simp; omega, ?_⟩
                  have h := HB.out.snoc (by simp [low_length]; omega) (dgt m) (.cells #[by8 (dgt m)] 5)
                  rw [len3] at h
                  rw [by8_dgt, ← List.append_assoc]
                  exact h
                case measure => simp [intOf]; omega
              · have em : m = 0 := by omega
                subst em
                clear hB hbond hbl hdU
                have H45 : Hid (by8 45 = Value.int .u8 45) := rfl
                go_upto_if 57 with fail
                go_cut [6] (fun s w1 => s = .slice (some ⟨w.heap.size, 0, none⟩) (backL v k W).length (k + 24) ∧ Buf w (k + 24) (backL v k W) w1)
                case first =>
                  by_cases hneg : v < 0
                  · have HBL : Hid (backL v k W = (low k v.natAbs).reverse ++ [46] ++ W ++ [45]) := by unfold backL; rw [if_pos hneg]; rfl
                    go_wp2
                    go_meet
                    case rel =>
                      rw [HBL.out]
                      refine ⟨by simp [low_length]; omega, ?_⟩
                      have h := HB.out.snoc (by simp [low_length]; omega) 45 (.cells #[by8 45] 5)
                      rw [len3, H45.out] at h
                      exact h
                  · have HBL : Hid (backL v k W = (low k v.natAbs).reverse ++ [46] ++ W) := by unfold backL; rw [if_neg hneg, List.append_nil]; rfl
                    go_wp2
                    go_meet
                    case rel =>
                      rw [HBL.out]
                      exact ⟨by simp [low_length]; omega, HB.out⟩
                case rest =>
                  obtain ⟨rfl, hB4⟩ := hcut
                  have HFX : Hid ((backL v k W).reverse = fixedL v k) := back_fixed v k W (by rw [HU.out]; exact HBd.out)
                  have hXl : (backL v k W).length ≤ 100000 := by
                    have hs : (if v < 0 then [(45 : UInt8)] else []).length ≤ 1 := by split <;> simp
                    unfold backL
                    simp only [List.length_append, List.length_reverse, low_length, List.length_singleton]
                    omega
                  generalize backL v k W = X at *
                  generalize hY : fixedL v k = Y at *
                  have HY : Hid (fixedL v k = Y) := hY
                  clear hY
                  clear HB hv hf hw HBd HU HdU
                  have hw4 : w.heap.size < wc.heap.size := hB4.2.1
                  have HB4 : Hid (Buf w (k + 24) X wc) := hB4
                  clear hB4
                  have hmk2 := run_make_row' (P := Tryd.prog) 25 5 (.int .u8 0) 1 Tryd.underlying25 Tryd.info5 rfl .i64 .i64 X.length (by omega) (by omega)
                  go_wp2
                  go_loopw [10] (fun i wr => ∃ j : Nat, j ≤ X.length ∧ i = .int .i64 j ∧ Rev w X wc.heap.size j wr) (fun i _ => X.length - (intOf i).toNat)
                  case atStart => exact ⟨0, Nat.zero_le _, rfl, Rev.start HB4.out⟩
                  case round =>
                    obtain ⟨j, hj, rfl, hR⟩ := hrel
                    have HR : Hid (Rev w X wc.heap.size j wr) := hR
                    clear hmk2 HB4
                    by_cases hlt : j < X.length
                    · have hr : X.length - 1 - j < X.length := by omega
                      have hcc : X.reverse[j]? = some X[X.length - 1 - j] := by rw [List.getElem?_reverse hlt]; simp
                      have g1 : wr.cell? ⟨w.heap.size, X.length - 1 - j, none⟩ = some (.int .u8 (X[X.length - 1 - j].toNat : Int)) := hR.2.2.2.2.2.1 (X.length - 1 - j) X[X.length - 1 - j] (by simp)
                      have hf := hR.2.2.2.2.1 j
                      obtain ⟨v1, hv⟩ := hR.2.2.2.1 j hlt
                      have HC : Hid (X.reverse[j]? = some X[X.length - 1 - j]) := hcc
                      generalize X[X.length - 1 - j] = c at *
                      clear hcc hR
                      go_wp2
                      go_roundw
                      case rel => exact ⟨j + 1, by omega, by go_num, HR.out.step hlt c HC.out⟩
                      case measure => simp [intOf]; omega
                    · have ej : j = X.length := by omega
                      subst ej
                      have hT := hR.text X.length
                      rw [HFX.out] at hT
                      have hBel := hR.1
                      clear hR HR
                      go_wp2
                      go_ret
                      exact ⟨by rw [HY.out]; rfl, hBel⟩
section
variable (v p : Int) (w : World)
set_option maxHeartbeats 400000 in
theorem model_on (h0 : -9223372036854775808 ≤ v) (h1 : v ≤ 9223372036854775807) (p0 : 0 ≤ p) (p1 : p ≤ 65536) (htab : Lib.TabIs Tryd.prog w tabName .u64 Lib.pow10Tab) :
    Calls Tryd.prog 3 #[.int .i64 v, .int .i64 p] w fun e w' => e = .returned (.bool true) ∧ Below w.heap.size w w' := by
  have C1 : Hid (Calls Tryd.prog 6 #[.int .i64 v, .int .i64 p] w fun e w' => e = .returned (.string ⟨(fixedL v p.toNat).toArray⟩) ∧ Below w.heap.size w w') :=
    zzfixed_any v h0 h1 p p0 (by omega) w (lib4 _ h0 h1 w htab)
  have C2 : Hid (∀ wx : World, Calls Tryd.prog 7 #[.int .i64 v, .int .i64 p] wx fun e w' => e = .returned (.string ⟨(fixedL v p.toNat).toArray⟩) ∧ Below wx.heap.size wx w') := fun wx => by
    have h := model_walk v h0 h1 p.toNat (by omega) wx
    rwa [Int.toNat_of_nonneg p0] at h
  generalize fixedL v p.toNat = R at *
  clear htab
  go_enter Tryd.func3, Tryd.ntmps3
  go_wp2_with fail
  refine C1.out.mono ?_
  rintro e w1 ⟨rfl, hb1⟩
  go_wp2_with fail
  refine (C2.out _).mono ?_
  rintro e w2 ⟨rfl, hb2⟩
  go_wp2
  go_ret
  exact ⟨by simp, hb1.trans (hb2.mono hb1.size)⟩
theorem model_any (h0 : -9223372036854775808 ≤ v) (h1 : v ≤ 9223372036854775807) (q0 : -9223372036854775808 ≤ p) (q1 : p ≤ 9223372036854775807) (htab : Lib.TabIs Tryd.prog w tabName .u64 Lib.pow10Tab) :
    Calls Tryd.prog 3 #[.int .i64 v, .int .i64 p] w fun e w' => e = .returned (.bool true) ∧ Below w.heap.size w w' := by
  by_cases c1 : p < 0
  · clear htab
    go_enter Tryd.func3, Tryd.ntmps3
    go_wp2
    go_ret
    exact ⟨rfl, Below.refl _ _⟩
  by_cases c2 : 65536 < p
  · clear htab
    go_enter Tryd.func3, Tryd.ntmps3
    go_wp2
    go_ret
    exact ⟨rfl, Below.refl _ _⟩
  exact model_on v p w h0 h1 (by omega) (by omega) htab
end
end Go.Proofs.Qxb6605193aDoor
