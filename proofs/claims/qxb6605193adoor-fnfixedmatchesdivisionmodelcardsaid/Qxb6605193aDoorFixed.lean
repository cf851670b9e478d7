/-
  The contracts of fixed (8) and ZZfixed (6), out of the shelf's contracts for the library.
-/
import Derived.Test.Qxb6605193aDoorRows
import Derived.Test.Qxb6605193aDoorPlain
import Derived.Test.Qxb6605193aDoorShelf
import Derived.WalkKit
import Derived.WalkSpells
import Derived.BigQuiet
import Derived.Deep.QuietTactic
import Derived.BigRegion
namespace Go.Proofs.Qxb6605193aDoor
open Go.RowKit
/-- the four contracts of the library at one number -/
structure Lib4 (v : Int) (B : Nat) (w : World) : Prop where
  fmt : ∀ wx, Below B w wx → Calls Tryd.prog 9 #[.int .i64 v, .int .i64 10] wx fun e w' => e = .returned (.string ⟨(Lib.itoa v).toArray⟩) ∧ Below wx.heap.size wx w'
  has : ∀ (s : ByteArray) (wx : World), Calls Tryd.prog 10 #[.string s, .string ⟨#[45]⟩] wx fun e w' => e = .returned (.bool (Lib.hasPrefix s.data.toList [45])) ∧ wx = w'
  trim : ∀ (s : ByteArray) (wx : World), Calls Tryd.prog 11 #[.string s, .string ⟨#[45]⟩] wx fun e w' => e = .returned (.string ⟨(Lib.trimPrefix s.data.toList [45]).toArray⟩) ∧ wx = w'
  rep : ∀ (c : Nat) (wx : World), c ≤ 100000 → Calls Tryd.prog 12 #[.string ⟨#[48]⟩, .int .i64 c] wx fun e w' => e = .returned (.string ⟨(Lib.repeatL [48] c).toArray⟩) ∧ Below wx.heap.size wx w'
theorem below_draws {B : Nat} {a w : World} (h : Below B a w) (n : Nat) : Below B a (w.drewN n) := h.trans ⟨rfl, rfl, rfl, Nat.le_refl _, fun _ _ => rfl⟩
theorem ret_str {a b : ByteArray} (h : a.data.toList = b.data.toList) : Ending.returned (.string a) = .returned (.string b) := by
  have e : a = b := by
    cases a; cases b
    simp at h
    subst h; rfl
  rw [e]
theorem cons_bytes (X : ByteArray) (l : List UInt8) (h : X.data.toList = l) : (ByteArray.mk #[45] ++ X).data.toList = 45 :: l := by
  subst h; simp
theorem point_bytes (T : ByteArray) (p : Nat) (l : List UInt8) (h : T.data.toList = l) (_hp : p ≤ T.size) :
    (T.extract 0 (T.size - p) ++ ByteArray.mk #[46] ++ T.extract (T.size - p) T.size).data.toList = point p l := by
  subst h
  unfold point
  rw [← Lib.size_eq, ByteArray.data_append, ByteArray.data_append, Array.toList_append, Array.toList_append, Lib.extract_data, Lib.extract_data]
  rw [List.drop_zero, Nat.sub_zero]
  congr 1
  rw [List.take_of_length_le]
  rw [List.length_drop, ← Lib.size_eq]
  omega
set_option maxRecDepth 100000 in
set_option maxHeartbeats 400000 in
theorem fixed_short (v : Int) (p : Nat) (hp : p ≤ 65537) (w : World) (L : Lib4 v w.heap.size w) (D : List UInt8) (S : ByteArray) (neg : Bool)
    (hS : Hid (Lib.itoa v = S.data.toList)) (hn : Hid (Lib.hasPrefix S.data.toList [45] = neg)) (hD : Hid (Lib.trimPrefix S.data.toList [45] = D)) (hlen : D.length ≤ p) :
    Calls Tryd.prog 8 #[.int .i64 v, .int .i64 (p : Int)] w fun e w' => e = .returned (.string ⟨((if neg then [45] else []) ++ point p (pad p D)).toArray⟩) ∧ Below w.heap.size w w' := by
  go_enter Tryd.func8, Tryd.ntmps8
  go_wp2_with fail
  refine (L.fmt _ (Below.refl _ _)).mono ?_
  rintro e w1 ⟨rfl, hb1⟩
  rw [hS.out]
  go_wp2_with fail
  refine (L.has _ _).mono ?_
  rintro e w' ⟨rfl, rfl⟩
  rw [show Lib.hasPrefix (ByteArray.mk S.data.toList.toArray).data.toList [45] = neg from hn.out]
  go_wp2_with fail
  refine (L.trim _ _).mono ?_
  rintro e w' ⟨rfl, rfl⟩
  rw [show Lib.trimPrefix (ByteArray.mk S.data.toList.toArray).data.toList [45] = D from hD.out]
  go_wp2_with fail
  rw [show ((p : Int) - (D.length : Int) + 1) = ((p - D.length + 1 : Nat) : Int) from by omega]
  refine (L.rep _ _ (by omega)).mono ?_
  rintro e w2 ⟨rfl, hb2⟩
  have hR : (Lib.repeatL [48] (p - D.length + 1)).length = p - D.length + 1 := by rw [Lib.repeatL_length]; simp
  have HR := repeat_zero (p - D.length + 1)
  generalize Lib.repeatL [48] (p - D.length + 1) = R at *
  have hRD : R.length + D.length ≤ 100000 := by omega
  have HT : Hid (R ++ D = pad p D) := by rw [HR]; unfold pad; rw [if_pos hlen]; rfl
  have hTs : p + 1 ≤ R.length + D.length := by omega
  clear HR hR
  go_wp2_with fail
  generalize hT : (ByteArray.mk R.toArray ++ ByteArray.mk D.toArray) = T
  have hTd : T.data.toList = R ++ D := by rw [← hT]; simp
  have hT1 : T.size = R.length + D.length := by rw [Lib.size_eq, hTd]; simp
  have hT2 : p + 1 ≤ T.size := by omega
  have hT3 : T.size ≤ 100000 := by omega
  have HTT : Hid (T.data.toList = pad p D) := by rw [hTd]; exact HT.out
  clear hTd hT hT1 hTs hRD
  go_quiet (fail)
  cases neg with
  | true =>
    go_wp2
    go_ret
    exact ⟨ret_str (by exact cons_bytes _ _ (point_bytes T p _ HTT.out (by omega))), below_draws (hb1.trans (hb2.mono hb1.size)) _⟩
  | false =>
    go_wp2
    go_ret
    exact ⟨ret_str (by exact point_bytes T p _ HTT.out (by omega)), below_draws (hb1.trans (hb2.mono hb1.size)) _⟩
set_option maxRecDepth 100000 in
set_option maxHeartbeats 400000 in
theorem fixed_long (v : Int) (p : Nat) (hp : p ≤ 65537) (w : World) (L : Lib4 v w.heap.size w) (D : List UInt8) (S : ByteArray) (neg : Bool)
    (hS : Hid (Lib.itoa v = S.data.toList)) (hn : Hid (Lib.hasPrefix S.data.toList [45] = neg)) (hD : Hid (Lib.trimPrefix S.data.toList [45] = D)) (hlen : p < D.length) (hlim : D.length ≤ 100000) :
    Calls Tryd.prog 8 #[.int .i64 v, .int .i64 (p : Int)] w fun e w' => e = .returned (.string ⟨((if neg then [45] else []) ++ point p (pad p D)).toArray⟩) ∧ Below w.heap.size w w' := by
  go_enter Tryd.func8, Tryd.ntmps8
  go_wp2_with fail
  refine (L.fmt _ (Below.refl _ _)).mono ?_
  rintro e w1 ⟨rfl, hb1⟩
  rw [hS.out]
  go_wp2_with fail
  refine (L.has _ _).mono ?_
  rintro e w' ⟨rfl, rfl⟩
  rw [show Lib.hasPrefix (ByteArray.mk S.data.toList.toArray).data.toList [45] = neg from hn.out]
  go_wp2_with fail
  refine (L.trim _ _).mono ?_
  rintro e w' ⟨rfl, rfl⟩
  rw [show Lib.trimPrefix (ByteArray.mk S.data.toList.toArray).data.toList [45] = D from hD.out]
  go_wp2_with fail
  generalize hT : (ByteArray.mk D.toArray) = T
  have hTd : T.data.toList = D := by rw [← hT]
  have hT1 : T.size = D.length := by rw [Lib.size_eq, hTd]
  have hT2 : p + 1 ≤ T.size := by omega
  have hT3 : T.size ≤ 100000 := by omega
  have HTT : Hid (T.data.toList = pad p D) := by rw [hTd]; unfold pad; rw [if_neg (by omega)]; rfl
  clear hTd hT hT1
  go_quiet (fail)
  cases neg with
  | true =>
    go_wp2
    go_ret
    exact ⟨ret_str (by exact cons_bytes _ _ (point_bytes T p _ HTT.out (by omega))), below_draws (hb1) _⟩
  | false =>
    go_wp2
    go_ret
    exact ⟨ret_str (by exact point_bytes T p _ HTT.out (by omega)), below_draws (hb1) _⟩
theorem dec_len : ∀ (n u : Nat), u < 10 ^ (n + 1) → (Lib.decDigits u).length ≤ n + 1
  | 0, u, h => by rw [dec_small u (by simpa using h)]; simp
  | n + 1, u, h => by
    by_cases hu : u < 10
    · rw [dec_small u hu]; simp
    · rw [dec_step u (by omega), List.length_append]
      have := dec_len n (u / 10) (by rw [Nat.pow_succ] at h; omega)
      simp; omega
theorem fixed_any (v : Int) (h0 : -9223372036854775808 ≤ v) (h1 : v ≤ 9223372036854775807) (p : Nat) (hp : p ≤ 65537) (w : World) (L : Lib4 v w.heap.size w) :
    Calls Tryd.prog 8 #[.int .i64 v, .int .i64 (p : Int)] w fun e w' => e = .returned (.string ⟨(fixedL v p).toArray⟩) ∧ Below w.heap.size w w' := by
  have hd : (Lib.decDigits v.natAbs).length ≤ 20 := dec_len 19 v.natAbs (by omega)
  have e : fixedL v p = (if decide (v < 0) then [45] else []) ++ point p (pad p (Lib.decDigits v.natAbs)) := by
    unfold fixedL; rw [point_pad]; simp
  rw [e]
  by_cases hl : (Lib.decDigits v.natAbs).length ≤ p
  · exact fixed_short v p hp w L _ ⟨(Lib.itoa v).toArray⟩ _ rfl (itoa_prefix v) (itoa_trim v) hl
  · exact fixed_long v p hp w L _ ⟨(Lib.itoa v).toArray⟩ _ rfl (itoa_prefix v) (itoa_trim v) (by omega) (by omega)
set_option maxHeartbeats 400000 in
theorem zzfixed_any (v : Int) (h0 : -9223372036854775808 ≤ v) (h1 : v ≤ 9223372036854775807) (p : Int) (hp0 : 0 ≤ p) (hp : p ≤ 65537) (w : World) (L : Lib4 v w.heap.size w) :
    Calls Tryd.prog 6 #[.int .i64 v, .int .i64 p] w fun e w' => e = .returned (.string ⟨(fixedL v p.toNat).toArray⟩) ∧ Below w.heap.size w w' := by
  obtain ⟨q, rfl⟩ := Int.eq_ofNat_of_zero_le hp0
  rw [Int.toNat_natCast]
  have H := fixed_any v h0 h1 q (by omega) w L
  generalize fixedL v q = r at *
  have HH : Hid (Calls Tryd.prog 8 #[.int .i64 v, .int .i64 (q : Int)] w fun e w' => e = .returned (.string ⟨r.toArray⟩) ∧ Below w.heap.size w w') := H
  clear H
  go_enter Tryd.func6, Tryd.ntmps6
  go_wp2_with fail
  refine HH.out.mono ?_
  rintro e w1 ⟨rfl, hb⟩
  go_wp2
  go_ret
  exact ⟨rfl, hb⟩
/-! the library's contracts at this program -/
/-- the one table that is read: its name as the given row bears it -/
def tabName : String := Rows.fnFixedScalesByTenRow.named.getD 0 ""
theorem tab_below {P : Program} {w wx : World} {n : String} {k : IntKind} {zs : List Int} (h : Lib.TabIs P w n k zs) (hb : Below w.heap.size w wx) : Lib.TabIs P wx n k zs := by
  unfold Lib.TabIs World.var? at h ⊢
  cases hg : P.globalNamed n with
  | none => rw [hg] at h; simp at h
  | some g =>
    rw [hg] at h
    simp only [Option.bind_some] at h ⊢
    have hlt : g < w.heap.size := by
      rcases Nat.lt_or_ge g w.heap.size with h' | h'
      · exact h'
      · rw [Array.getElem?_eq_none h'] at h; cases h
    rw [hb.block g hlt]
    exact h
theorem below_grown (w : World) (k : Nat) (os : Array Obj) : Below w.heap.size w (Go.Sort.grow (w.drewN k) os) :=
  ⟨rfl, rfl, rfl, by simp, fun i hi => Go.Sort.heap_grow_old (w.drewN k) os hi⟩
theorem lib4 (v : Int) (h0 : -9223372036854775808 ≤ v) (h1 : v ≤ 9223372036854775807) (w : World) (htab : Lib.TabIs Tryd.prog w tabName .u64 Lib.pow10Tab) : Lib4 v w.heap.size w :=
  { fmt := fun wx hb => (Any.strconv_FormatInt_10 Tryd.laysM173 v h0 h1 wx (tab_below htab hb)).mono fun e w' ⟨he, k, os, hw⟩ => ⟨he, by rw [hw]; exact below_grown wx k os⟩
    has := fun s wx => (Any.strings_HasPrefix Tryd.lays99 s ⟨#[45]⟩ wx).mono fun e w' ⟨he, hw⟩ => ⟨he, hw.symm⟩
    trim := fun s wx => (Any.strings_TrimPrefix Tryd.lays101 s ⟨#[45]⟩ wx).mono fun e w' ⟨he, hw⟩ => ⟨he, hw.symm⟩
    rep := fun c wx hc => (Any.strings_Repeat Tryd.lays105 Tryd.Builder_Extra_105 ⟨#[48]⟩ c wx (by omega) (by show 1 * c ≤ _; omega)).mono fun e w' ⟨he, hw⟩ => ⟨he, hw⟩ }
end Go.Proofs.Qxb6605193aDoor
