/-
  FnFixedScalesByTen (4) and FnFixedNegationAddsMinus (5), walked out of the contract of ZZfixed.
-/
import Derived.Test.Qxb6605193aDoorFixed
namespace Go.Proofs.Qxb6605193aDoor
open Go.RowKit
theorem fixed_len (v : Int) (h0 : -9223372036854775808 ≤ v) (h1 : v ≤ 9223372036854775807) (p : Nat) (hp : p ≤ 65537) : (fixedL v p).length ≤ 100000 := by
  have hle : v.natAbs / 10 ^ p ≤ v.natAbs := Nat.div_le_self _ _
  have hd : (Lib.decDigits (v.natAbs / 10 ^ p)).length ≤ 20 := dec_len 19 _ (by omega)
  unfold fixedL
  have hs : (if v < 0 then [(45 : UInt8)] else []).length ≤ 1 := by split <;> simp
  simp only [List.length_append, low_length, List.length_singleton]
  omega
theorem ret_bool {a b : Bool} (h : a = b) : Ending.returned (.bool a) = .returned (.bool b) := by rw [h]
theorem eq_snoc (a b : List UInt8) (x : UInt8) (h : a = b ++ [x]) : (a == (ByteArray.mk b.toArray ++ ByteArray.mk #[x]).toList) = true := by
  rw [ByteArray.toList_eq]; subst h; simp
theorem eq_cons (a b : List UInt8) (x : UInt8) (h : a = x :: b) : (a == (ByteArray.mk #[x] ++ ByteArray.mk b.toArray).toList) = true := by
  rw [ByteArray.toList_eq]; subst h; simp
section
variable (v p : Int) (w : World)
set_option maxHeartbeats 400000 in
theorem ten_on (h0 : -922337203685477580 ≤ v) (h1 : v ≤ 922337203685477580) (p0 : 0 ≤ p) (p1 : p < 65536) (htab : Lib.TabIs Tryd.prog w tabName .u64 Lib.pow10Tab) :
    Calls Tryd.prog 4 #[.int .i64 v, .int .i64 p] w fun e w' => e = .returned (.bool true) ∧ Below w.heap.size w w' := by
  have HT : Hid (Lib.TabIs Tryd.prog w tabName .u64 Lib.pow10Tab) := htab
  clear htab
  have hE : fixedL (v * 10) (p + 1).toNat = fixedL v p.toNat ++ [48] := by
    rw [show (p + 1).toNat = p.toNat + 1 from by omega]; exact fixed_ten v p.toNat
  have hL := fixed_len v (by omega) (by omega) p.toNat (by omega)
  have C1 : Hid (∀ wx : World, Below w.heap.size w wx → Calls Tryd.prog 6 #[.int .i64 (v * 10), .int .i64 (p + 1)] wx fun e w' => e = .returned (.string ⟨(fixedL (v * 10) (p + 1).toNat).toArray⟩) ∧ Below wx.heap.size wx w') :=
    fun wx hb => zzfixed_any (v * 10) (by omega) (by omega) (p + 1) (by omega) (by omega) wx (lib4 _ (by omega) (by omega) wx (tab_below HT.out hb))
  have C2 : Hid (∀ wx : World, Below w.heap.size w wx → Calls Tryd.prog 6 #[.int .i64 v, .int .i64 p] wx fun e w' => e = .returned (.string ⟨(fixedL v p.toNat).toArray⟩) ∧ Below wx.heap.size wx w') :=
    fun wx hb => zzfixed_any v (by omega) (by omega) p (by omega) (by omega) wx (lib4 _ (by omega) (by omega) wx (tab_below HT.out hb))
  generalize fixedL (v * 10) (p + 1).toNat = R1 at *
  generalize fixedL v p.toNat = R2 at *
  have HE : Hid (R1 = R2 ++ [48]) := hE
  clear hE
  go_enter Tryd.func4, Tryd.ntmps4
  go_wp2_with fail
  refine (C1.out _ (Below.refl _ _)).mono ?_
  rintro e w1 ⟨rfl, hb1⟩
  go_wp2_with fail
  refine (C2.out _ hb1).mono ?_
  rintro e w2 ⟨rfl, hb2⟩
  go_wp2
  go_ret
  exact ⟨ret_bool (eq_snoc R1 R2 48 HE.out), hb1.trans (hb2.mono hb1.size)⟩
set_option maxHeartbeats 400000 in
theorem neg_on (h0 : 0 < v) (h1 : v ≤ 9223372036854775807) (p0 : 0 ≤ p) (p1 : p ≤ 65536) (htab : Lib.TabIs Tryd.prog w tabName .u64 Lib.pow10Tab) :
    Calls Tryd.prog 5 #[.int .i64 v, .int .i64 p] w fun e w' => e = .returned (.bool true) ∧ Below w.heap.size w w' := by
  have HT : Hid (Lib.TabIs Tryd.prog w tabName .u64 Lib.pow10Tab) := htab
  clear htab
  have hE : fixedL (-v) p.toNat = 45 :: fixedL v p.toNat := fixed_neg v p.toNat h0
  have hL := fixed_len v (by omega) (by omega) p.toNat (by omega)
  have C1 : Hid (∀ wx : World, Below w.heap.size w wx → Calls Tryd.prog 6 #[.int .i64 (-v), .int .i64 p] wx fun e w' => e = .returned (.string ⟨(fixedL (-v) p.toNat).toArray⟩) ∧ Below wx.heap.size wx w') :=
    fun wx hb => zzfixed_any (-v) (by omega) (by omega) p (by omega) (by omega) wx (lib4 _ (by omega) (by omega) wx (tab_below HT.out hb))
  have C2 : Hid (∀ wx : World, Below w.heap.size w wx → Calls Tryd.prog 6 #[.int .i64 v, .int .i64 p] wx fun e w' => e = .returned (.string ⟨(fixedL v p.toNat).toArray⟩) ∧ Below wx.heap.size wx w') :=
    fun wx hb => zzfixed_any v (by omega) (by omega) p (by omega) (by omega) wx (lib4 _ (by omega) (by omega) wx (tab_below HT.out hb))
  generalize fixedL (-v) p.toNat = R1 at *
  generalize fixedL v p.toNat = R2 at *
  have HE : Hid (R1 = 45 :: R2) := hE
  clear hE
  go_enter Tryd.func5, Tryd.ntmps5
  go_wp2_with fail
  refine (C1.out _ (Below.refl _ _)).mono ?_
  rintro e w1 ⟨rfl, hb1⟩
  go_wp2_with fail
  refine (C2.out _ hb1).mono ?_
  rintro e w2 ⟨rfl, hb2⟩
  go_wp2
  go_ret
  exact ⟨ret_bool (eq_cons R1 R2 45 HE.out), hb1.trans (hb2.mono hb1.size)⟩
theorem ten_any (h0 : -9223372036854775808 ≤ v) (h1 : v ≤ 9223372036854775807) (q0 : -9223372036854775808 ≤ p) (q1 : p ≤ 9223372036854775807) (htab : Lib.TabIs Tryd.prog w tabName .u64 Lib.pow10Tab) :
    Calls Tryd.prog 4 #[.int .i64 v, .int .i64 p] w fun e w' => e = .returned (.bool true) ∧ Below w.heap.size w w' := by
  by_cases c1 : p < 0
  · clear htab
    go_enter Tryd.func4, Tryd.ntmps4
    go_wp2
    go_ret
    exact ⟨rfl, Below.refl _ _⟩
  by_cases c2 : 65536 ≤ p
  · clear htab
    go_enter Tryd.func4, Tryd.ntmps4
    go_wp2
    go_ret
    exact ⟨rfl, Below.refl _ _⟩
  by_cases c3 : 922337203685477580 < v
  · clear htab
    go_enter Tryd.func4, Tryd.ntmps4
    go_wp2
    go_ret
    exact ⟨rfl, Below.refl _ _⟩
  by_cases c4 : v < -922337203685477580
  · clear htab
    go_enter Tryd.func4, Tryd.ntmps4
    go_wp2
    go_ret
    exact ⟨rfl, Below.refl _ _⟩
  exact ten_on v p w (by omega) (by omega) (by omega) (by omega) htab
theorem neg_any (h0 : -9223372036854775808 ≤ v) (h1 : v ≤ 9223372036854775807) (q0 : -9223372036854775808 ≤ p) (q1 : p ≤ 9223372036854775807) (htab : Lib.TabIs Tryd.prog w tabName .u64 Lib.pow10Tab) :
    Calls Tryd.prog 5 #[.int .i64 v, .int .i64 p] w fun e w' => e = .returned (.bool true) ∧ Below w.heap.size w w' := by
  by_cases c1 : p < 0
  · clear htab
    go_enter Tryd.func5, Tryd.ntmps5
    go_wp2
    go_ret
    exact ⟨rfl, Below.refl _ _⟩
  by_cases c2 : 65536 < p
  · clear htab
    go_enter Tryd.func5, Tryd.ntmps5
    go_wp2
    go_ret
    exact ⟨rfl, Below.refl _ _⟩
  by_cases c3 : v ≤ 0
  · clear htab
    go_enter Tryd.func5, Tryd.ntmps5
    go_wp2
    go_ret
    exact ⟨rfl, Below.refl _ _⟩
  exact neg_on v p w (by omega) (by omega) (by omega) (by omega) htab
end
end Go.Proofs.Qxb6605193aDoor
