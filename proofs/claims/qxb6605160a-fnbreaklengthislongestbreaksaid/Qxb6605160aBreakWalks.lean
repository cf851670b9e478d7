/-
  The contracts of breakLength (10), ZZBreakLength (6), zzBreak (11), zzBeginsWith (12), zzLongestBreak (7), zzBytes_.. (5).
-/
import Derived.Test.Qxb6605160aRows
import Derived.WalkKit
import Derived.WalkSpells
import Derived.BigQuiet
import Derived.Deep.QuietTactic
import Derived.BigRegion
import Derived.Deep.OwnRows
namespace Go.Proofs.Qxb6605160a
open Go.RowKit
theorem ret_int {k : IntKind} {a b : Int} (h : a = b) : Ending.returned (.int k a) = .returned (.int k b) := by rw [h]
theorem ret_bool {a b : Bool} (h : a = b) : Ending.returned (.bool a) = .returned (.bool b) := by rw [h]
/-- the row at g holds these bytes -/
def Row (w : World) (g : Nat) (zs : List Int) : Prop := ∀ j, j < zs.length → w.cell? ⟨g, j, none⟩ = some (.int .u8 (zs.getD j 0))
def bl : List Int → Int
  | z0 :: rest => if z0 = 10 then 1 else if z0 = 13 then (if rest.head? = some 10 then 2 else 1) else if z0 = 194 then (if rest.head? = some 133 then 2 else 0)
      else if z0 = 226 then (if rest.head? = some 128 ∧ (rest.tail.head? = some 168 ∨ rest.tail.head? = some 169) then 3 else 0) else 0
  | [] => 0
set_option maxHeartbeats 400000 in
theorem break_1 (g : Nat) (z0 : Int) (w : World) (h0 : w.cell? ⟨g, 0, none⟩ = some (.int .u8 z0)) (cap : Nat)  :
    Calls Try.prog 10 #[.slice (some ⟨g, 0, none⟩) 1 cap] w fun e w' => e = .returned (.int .i64 (bl [z0])) ∧ w' = w := by
  go_enter Try.func10, Try.ntmps10
  go_wp2
  all_goals (go_ret; refine ⟨ret_int ?_, rfl⟩; simp_all [bl])
set_option maxHeartbeats 400000 in
theorem break_2 (g : Nat) (z0 z1 : Int) (w : World) (h0 : w.cell? ⟨g, 0, none⟩ = some (.int .u8 z0)) (h1 : w.cell? ⟨g, 1, none⟩ = some (.int .u8 z1)) (cap : Nat)  :
    Calls Try.prog 10 #[.slice (some ⟨g, 0, none⟩) 2 cap] w fun e w' => e = .returned (.int .i64 (bl [z0, z1])) ∧ w' = w := by
  go_enter Try.func10, Try.ntmps10
  go_wp2
  all_goals (go_ret; refine ⟨ret_int ?_, rfl⟩; simp_all [bl])
set_option maxHeartbeats 400000 in
theorem break_3 (g : Nat) (z0 z1 z2 : Int) (n : Nat) (hn : 3 ≤ n) (hm : n ≤ 1048576) (w : World) (h0 : w.cell? ⟨g, 0, none⟩ = some (.int .u8 z0)) (h1 : w.cell? ⟨g, 1, none⟩ = some (.int .u8 z1)) (h2 : w.cell? ⟨g, 2, none⟩ = some (.int .u8 z2)) (cap : Nat) (l : List Int) :
    Calls Try.prog 10 #[.slice (some ⟨g, 0, none⟩) n cap] w fun e w' => e = .returned (.int .i64 (bl (z0 :: z1 :: z2 :: l))) ∧ w' = w := by
  go_enter Try.func10, Try.ntmps10
  go_wp2
  all_goals (go_ret; refine ⟨ret_int ?_, rfl⟩; simp_all [bl])
theorem break_any (g : Nat) (zs : List Int) (hz : 0 < zs.length) (hm : zs.length ≤ 1048576) (w : World) (hr : Row w g zs) (cap : Nat) :
    Calls Try.prog 10 #[.slice (some ⟨g, 0, none⟩) zs.length cap] w fun e w' => e = .returned (.int .i64 (bl zs)) ∧ w' = w := by
  match zs, hz, hm, hr with
  | [z0], _, _, hr => exact break_1 g z0 w (hr 0 (by simp)) cap
  | [z0, z1], _, _, hr => exact break_2 g z0 z1 w (hr 0 (by simp)) (hr 1 (by simp)) cap
  | z0 :: z1 :: z2 :: l, _, hm, hr => exact break_3 g z0 z1 z2 _ (by simp) hm w (hr 0 (by simp)) (hr 1 (by simp)) (hr 2 (by simp)) cap l
set_option maxHeartbeats 400000 in
theorem zzbreak_any (g : Nat) (zs : List Int) (hz : 0 < zs.length) (hm : zs.length ≤ 1048576) (w : World) (hr : Row w g zs) (cap : Nat) :
    Calls Try.prog 6 #[.slice (some ⟨g, 0, none⟩) zs.length cap] w fun e w' => e = .returned (.int .i64 (bl zs)) ∧ w' = w := by
  go_enter Try.func6, Try.ntmps6
  go_wp2_with (go_at_call 10; refine (break_any g zs hz hm _ (by exact hr) cap).mono ?_; rintro e w' ⟨rfl, rfl⟩)
  go_ret
  exact ⟨rfl, rfl⟩
/-! the six breaks -/
def brk : Nat → ByteArray
  | 0 => ⟨#[10]⟩ | 1 => ⟨#[13]⟩ | 2 => ⟨#[13, 10]⟩ | 3 => ⟨#[194, 133]⟩ | 4 => ⟨#[226, 128, 168]⟩ | _ => ⟨#[226, 128, 169]⟩
theorem brk_any (i : Nat) (hi : i < 6) (w : World) : Calls Try.prog 11 #[.int .i64 (i : Int)] w fun e w' => e = .returned (.string (brk i)) ∧ w' = w := by
  match i, hi with
  | 0, _ | 1, _ | 2, _ | 3, _ | 4, _ | 5, _ =>
    go_enter Try.func11, Try.ntmps11
    go_wp2
    go_ret
    exact ⟨rfl, rfl⟩
/-! begins with -/
def pref : List Int → List UInt8 → Bool
  | _, [] => true
  | [], _ :: _ => false
  | z :: zs, c :: cs => z == (c.toNat : Int) && pref zs cs
theorem pref_long : ∀ (zs : List Int) (cs : List UInt8), zs.length < cs.length → pref zs cs = false
  | _, [], h => by simp at h
  | [], _ :: _, _ => rfl
  | z :: zs, c :: cs, h => by simp [pref, pref_long zs cs (by simpa using h)]
theorem pref_drop (zs : List Int) (cs : List UInt8) (k : Nat) (h1 : k < zs.length) (h2 : k < cs.length) : pref (zs.drop k) (cs.drop k) = ((zs.getD k 0) == ((cs[k].toNat : Nat) : Int) && pref (zs.drop (k + 1)) (cs.drop (k + 1))) := by
  rw [List.drop_eq_getElem_cons h1, List.drop_eq_getElem_cons h2]
  simp [pref, h1]
theorem pref_ne (zs : List Int) (b : ByteArray) (k : Nat) (h1 : k < zs.length) (h2 : k < b.size) (h : (zs[k]?.getD 0 != ((b[k].toNat : Nat) : Int)) = true) : pref (zs.drop k) (b.data.toList.drop k) = false := by
  rw [pref_drop zs b.data.toList k h1 (by simpa using h2)]
  have h' : zs[k]?.getD 0 ≠ ((b[k].toNat : Nat) : Int) := by simpa using h
  have e : b.data.toList[k]'(by simpa using h2) = b[k] := rfl
  rw [e]
  simp [List.getD_eq_getElem?_getD, h']
theorem pref_eq (zs : List Int) (b : ByteArray) (k : Nat) (h1 : k < zs.length) (h2 : k < b.size) (h : (zs[k]?.getD 0 != ((b[k].toNat : Nat) : Int)) = false) : pref (zs.drop k) (b.data.toList.drop k) = pref (zs.drop (k + 1)) (b.data.toList.drop (k + 1)) := by
  rw [pref_drop zs b.data.toList k h1 (by simpa using h2)]
  have h' : zs[k]?.getD 0 = ((b[k].toNat : Nat) : Int) := by simpa using h
  have e : b.data.toList[k]'(by simpa using h2) = b[k] := rfl
  rw [e]
  simp [List.getD_eq_getElem?_getD, h']
set_option maxHeartbeats 400000 in
theorem begins_long (g : Nat) (zs : List Int) (b : ByteArray) (_hb : b.size ≤ 3) (hlt : zs.length < b.size) (w : World) (cap : Nat) :
    Calls Try.prog 12 #[.slice (some ⟨g, 0, none⟩) zs.length cap, .string b] w fun e w' => e = .returned (.bool (pref zs b.data.toList)) ∧ ∃ n, w' = w.drewN n := by
  rw [pref_long zs _ (by simpa using hlt)]
  go_enter Try.func12, Try.ntmps12
  go_wp2
  go_ret
  exact ⟨rfl, 0, rfl⟩
set_option maxHeartbeats 400000 in
theorem begins_any (g : Nat) (zs : List Int) (hm : zs.length ≤ 1048576) (b : ByteArray) (_hb : b.size ≤ 3) (hle : b.size ≤ zs.length) (w : World) (hr : Row w g zs) (cap : Nat) :
    Calls Try.prog 12 #[.slice (some ⟨g, 0, none⟩) zs.length cap, .string b] w fun e w' => e = .returned (.bool (pref zs b.data.toList)) ∧ ∃ n, w' = w.drewN n := by
  go_enter Try.func12, Try.ntmps12
  go_wp2
  go_loopw [5] (fun i wr => ∃ (k n : Nat), k ≤ b.size ∧ i = .int .i64 k ∧ wr = w.drewN n ∧ pref zs b.data.toList = pref (zs.drop k) (b.data.toList.drop k)) (fun i _ => b.size - (intOf i).toNat)
  case atStart => exact ⟨0, 0, Nat.zero_le _, rfl, rfl, rfl⟩
  case round =>
    obtain ⟨k, nd, hk, rfl, rfl, he⟩ := hrel
    have HE : Hid (pref zs b.data.toList = pref (zs.drop k) (b.data.toList.drop k)) := he
    clear he
    by_cases hlt : k < b.size
    · have hc := hr k (by omega)
      have hkz : (k : Int) < (zs.length : Int) := by omega
      have hkb : (k : Int) < (b.size : Int) := by omega
      go_wp2
      go_quiet (fail)
      go_wp2
      · go_ret
        exact ⟨ret_bool (by rw [HE.out, pref_ne zs b k (by omega) hlt (by assumption)]), nd + nq, by simp⟩
      · go_roundw
        case rel => exact ⟨k + 1, nd + nq, by omega, by go_num, rfl, by rw [HE.out, pref_eq zs b k (by omega) hlt (by assumption)]⟩
        case measure => simp [intOf]; omega
    · go_wp2
      go_ret
      refine ⟨ret_bool ?_, nd, rfl⟩
      rw [HE.out, show b.data.toList.drop k = [] from List.drop_eq_nil_of_le (by simp; omega)]
      cases zs.drop k <;> rfl
theorem begins (g : Nat) (zs : List Int) (hm : zs.length ≤ 1048576) (b : ByteArray) (hb : b.size ≤ 3) (w : World) (hr : Row w g zs) (cap : Nat) :
    Calls Try.prog 12 #[.slice (some ⟨g, 0, none⟩) zs.length cap, .string b] w fun e w' => e = .returned (.bool (pref zs b.data.toList)) ∧ ∃ n, w' = w.drewN n := by
  by_cases h : zs.length < b.size
  · exact begins_long g zs b hb h w cap
  · exact begins_any g zs hm b hb (by omega) w hr cap
/-! the longest of them -/
def best (zs : List Int) : Nat → Nat
  | 0 => 0
  | i + 1 => if pref zs (brk i).data.toList = true ∧ best zs i < (brk i).size then (brk i).size else best zs i
theorem brk_size : ∀ i, (brk i).size ≤ 3
  | 0 | 1 | 2 | 3 | 4 => by decide
  | _ + 5 => by show (ByteArray.mk #[226, 128, 169]).size ≤ 3; decide
theorem best_le (zs : List Int) : ∀ i, best zs i ≤ 3
  | 0 => by simp [best]
  | i + 1 => by
    have h1 := best_le zs i
    have h2 := brk_size i
    unfold best
    split <;> assumption
set_option maxHeartbeats 400000 in
theorem longest_any (g : Nat) (zs : List Int) (hm : zs.length ≤ 1048576) (w : World) (hr : Row w g zs) (cap : Nat) :
    Calls Try.prog 7 #[.slice (some ⟨g, 0, none⟩) zs.length cap] w fun e w' => e = .returned (.int .i64 (best zs 6 : Nat)) ∧ ∃ n, w' = w.drewN n := by
  go_enter Try.func7, Try.ntmps7
  go_wp2
  go_loopw [3, 4] (fun s i wr => ∃ (k n : Nat), k ≤ 6 ∧ i = .int .i64 k ∧ s = .int .i64 (best zs k : Nat) ∧ wr = w.drewN n) (fun _ i _ => 6 - (intOf i).toNat)
  case atStart => exact ⟨0, 0, Nat.zero_le _, rfl, rfl, rfl⟩
  case round =>
    obtain ⟨k, nd, hk, rfl, rfl, rfl⟩ := hrel
    by_cases hlt : k < 6
    · have hbk := brk_any k hlt
      have hs := brk_size k
      have hb := best_le zs k
      have hs1 : best zs (k + 1) = if pref zs (brk k).data.toList = true ∧ best zs k < (brk k).size then (brk k).size else best zs k := rfl
      have HS : Hid (best zs (k + 1) = if pref zs (brk k).data.toList = true ∧ best zs k < (brk k).size then (brk k).size else best zs k) := hs1
      clear hs1
      have hbg := begins g zs hm (brk k) hs (w.drewN nd) (by exact hr) cap
      generalize best zs k = bk at *
      generalize brk k = B at *
      generalize hp : pref zs B.data.toList = pf at *
      have HB : Hid (∀ w : World, Calls Try.prog 11 #[.int .i64 (k : Int)] w fun e w' => e = .returned (.string B) ∧ w' = w) := hbk
      have HG : Hid (Calls Try.prog 12 #[.slice (some ⟨g, 0, none⟩) zs.length cap, .string B] (w.drewN nd) fun e w' => e = .returned (.bool pf) ∧ ∃ n, w' = (w.drewN nd).drewN n) := hbg
      clear hbk hbg hp
      go_wp2_with fail
      refine (HB.out _).mono ?_
      rintro e w' ⟨rfl, rfl⟩
      cases pf with
      | true =>
        by_cases hgt : bk < B.size
        · go_wp2_with fail
          refine HG.out.mono ?_
          rintro e w' ⟨rfl, n2, rfl⟩
          go_wp2
          go_roundw
          case rel => exact ⟨k + 1, nd + n2, by omega, by go_num, by rw [HS.out]; simp [hgt], by simp⟩
          case measure => simp [intOf]; omega
        · go_wp2_with fail
          refine HG.out.mono ?_
          rintro e w' ⟨rfl, n2, rfl⟩
          go_wp2
          go_roundw
          case rel => exact ⟨k + 1, nd + n2, by omega, by go_num, by rw [HS.out, if_neg (fun h => absurd h.2 (by omega))], by simp⟩
          case measure => simp [intOf]; omega
      | false =>
        go_wp2_with fail
        refine HG.out.mono ?_
        rintro e w' ⟨rfl, n2, rfl⟩
        go_wp2
        go_roundw
        case rel => exact ⟨k + 1, nd + n2, by omega, by go_num, by rw [HS.out, if_neg (fun h => by cases h.1)], by simp⟩
        case measure => simp [intOf]; omega
    · have e6 : k = 6 := by omega
      subst e6
      go_wp2
      go_ret
      exact ⟨rfl, nd, rfl⟩
/-! the plain law -/
theorem best6 (zs : List Int) (p0 p1 p2 p3 p4 p5 : Bool) (h0 : pref zs [10] = p0) (h1 : pref zs [13] = p1) (h2 : pref zs [13, 10] = p2) (h3 : pref zs [194, 133] = p3) (h4 : pref zs [226, 128, 168] = p4) (h5 : pref zs [226, 128, 169] = p5) :
    best zs 6 = if p4 || p5 then 3 else if p2 || p3 then 2 else if p0 || p1 then 1 else 0 := by
  have s0 : (brk 0).data.toList = [10] := rfl
  have s1 : (brk 1).data.toList = [13] := rfl
  have s2 : (brk 2).data.toList = [13, 10] := rfl
  have s3 : (brk 3).data.toList = [194, 133] := rfl
  have s4 : (brk 4).data.toList = [226, 128, 168] := rfl
  have s5 : (brk 5).data.toList = [226, 128, 169] := rfl
  have t0 : (brk 0).size = 1 := rfl
  have t1 : (brk 1).size = 1 := rfl
  have t2 : (brk 2).size = 2 := rfl
  have t3 : (brk 3).size = 2 := rfl
  have t4 : (brk 4).size = 3 := rfl
  have t5 : (brk 5).size = 3 := rfl
  simp only [best, s0, s1, s2, s3, s4, s5, t0, t1, t2, t3, t4, t5, h0, h1, h2, h3, h4, h5]
  clear h0 h1 h2 h3 h4 h5
  revert p0 p1 p2 p3 p4 p5
  decide
theorem best_bl (zs : List Int) (hz : 0 < zs.length) : ((best zs 6 : Nat) : Int) = bl zs := by
  rw [best6 zs _ _ _ _ _ _ rfl rfl rfl rfl rfl rfl]
  match zs, hz with
  | [z0], _ =>
    simp only [pref, bl]
    by_cases a1 : z0 = 10
    · subst a1; decide
    by_cases a2 : z0 = 13
    · subst a2; decide
    by_cases a3 : z0 = 194
    · subst a3; decide
    by_cases a4 : z0 = 226
    · subst a4; decide
    simp [a1, a2, a3, a4]
  | [z0, z1], _ =>
    simp only [pref, bl]
    by_cases a1 : z0 = 10
    · subst a1; simp
    by_cases a2 : z0 = 13
    · subst a2; by_cases b : z1 = 10 <;> simp [b]
    by_cases a3 : z0 = 194
    · subst a3; by_cases b : z1 = 133 <;> simp [b]
    by_cases a4 : z0 = 226
    · subst a4; simp
    simp [a1, a2, a3, a4]
  | z0 :: z1 :: z2 :: l, _ =>
    simp only [pref, bl]
    by_cases a1 : z0 = 10
    · subst a1; simp
    by_cases a2 : z0 = 13
    · subst a2; by_cases b : z1 = 10 <;> simp [b]
    by_cases a3 : z0 = 194
    · subst a3; by_cases b : z1 = 133 <;> simp [b]
    by_cases a4 : z0 = 226
    · subst a4; by_cases b : z1 = 128 <;> by_cases c : z2 = 168 <;> by_cases d : z2 = 169 <;> simp_all
    simp [a1, a2, a3, a4]
end Go.Proofs.Qxb6605160a
