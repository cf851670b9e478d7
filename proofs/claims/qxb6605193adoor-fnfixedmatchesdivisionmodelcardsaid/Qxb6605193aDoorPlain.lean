/-
  The plain mathematics of 'fixed': the text of a number of units of 10^-p. No run of a program in sight.
-/
import Derived.Lib.ItoaNum
import Derived.Lib.Strings
import Derived.Lib.Repeat
namespace Go.Proofs.Qxb6605193aDoor
/-- one decimal digit, as a byte -/
def dgt (u : Nat) : UInt8 := UInt8.ofNat (48 + u % 10)
/-- the last p digits of u, zeros in front -/
def low : Nat → Nat → List UInt8
  | 0, _ => []
  | p + 1, u => low p (u / 10) ++ [dgt u]
theorem low_length : ∀ p u, (low p u).length = p
  | 0, _ => rfl
  | p + 1, u => by simp [low, low_length p]
theorem dec_step (u : Nat) (h : 10 ≤ u) : Lib.decDigits u = Lib.decDigits (u / 10) ++ [dgt u] := by
  rw [Lib.decDigits, dif_neg (by omega)]; rfl
theorem dec_small (u : Nat) (h : u < 10) : Lib.decDigits u = [dgt u] := by
  rw [Lib.decDigits, dif_pos h, dgt, Nat.mod_eq_of_lt h]
theorem dec_ne (u : Nat) : 1 ≤ (Lib.decDigits u).length := by
  by_cases h : u < 10
  · rw [dec_small u h]; simp
  · rw [dec_step u (by omega)]; simp
theorem dgt_toNat (u : Nat) : (dgt u).toNat = 48 + u % 10 := by
  unfold dgt
  rw [UInt8.toNat_ofNat']
  omega
theorem dec_head : ∀ (n u : Nat), u < n → ∃ d ds, Lib.decDigits u = d :: ds ∧ 48 ≤ d.toNat
  | 0, u, h => by omega
  | n + 1, u, h => by
    by_cases hu : u < 10
    · exact ⟨dgt u, [], dec_small u hu, by rw [dgt_toNat]; omega⟩
    · obtain ⟨d, ds, e, hd⟩ := dec_head n (u / 10) (by omega)
      exact ⟨d, ds ++ [dgt u], by rw [dec_step u (by omega), e]; simp, hd⟩
/-- zeros in front, so that there are more than p digits -/
def pad (p : Nat) (d : List UInt8) : List UInt8 := if d.length ≤ p then List.replicate (p - d.length + 1) 48 ++ d else d
theorem pad_snoc (p : Nat) (d : List UInt8) (x : UInt8) : pad (p + 1) (d ++ [x]) = pad p d ++ [x] := by
  unfold pad
  by_cases h : d.length ≤ p
  · rw [if_pos h, if_pos (by simp; omega)]
    simp
  · rw [if_neg h, if_neg (by simp; omega)]
theorem pad_zero : ∀ p, pad p [48] = List.replicate (p + 1) 48
  | 0 => by simp [pad]
  | p + 1 => by
    unfold pad
    rw [if_pos (by simp)]
    simp only [List.length_singleton]
    rw [show p + 1 - 1 + 1 = p + 1 from by omega, show [(48 : UInt8)] = List.replicate 1 48 from rfl, List.replicate_append_replicate]
theorem pad_one (p : Nat) (x : UInt8) : pad (p + 1) [x] = List.replicate (p + 1) 48 ++ [x] := by
  unfold pad
  rw [if_pos (by simp)]
  simp
theorem pad_dec : ∀ p u, pad p (Lib.decDigits u) = Lib.decDigits (u / 10 ^ p) ++ low p u
  | 0, u => by
    have := dec_ne u
    unfold pad
    rw [if_neg (by omega)]
    simp [low]
  | p + 1, u => by
    have ih := pad_dec p (u / 10)
    have e : u / 10 / 10 ^ p = u / 10 ^ (p + 1) := by rw [Nat.div_div_eq_div_mul, Nat.pow_succ, Nat.mul_comm]
    rw [e] at ih
    unfold low
    rw [← List.append_assoc, ← ih]
    by_cases h : u < 10
    · rw [dec_small u h, show u / 10 = 0 from by omega, dec_small 0 (by omega), pad_one]
      rw [show dgt 0 = 48 from rfl, pad_zero]
    · rw [dec_step u (by omega), pad_snoc]
/-- the point, p places from the end -/
def point (p : Nat) (l : List UInt8) : List UInt8 := l.take (l.length - p) ++ [46] ++ l.drop (l.length - p)
theorem point_pad (p u : Nat) : point p (pad p (Lib.decDigits u)) = Lib.decDigits (u / 10 ^ p) ++ [46] ++ low p u := by
  rw [pad_dec]
  unfold point
  rw [List.length_append, low_length, Nat.add_sub_cancel]
  rw [List.take_left' rfl, List.drop_left' rfl]
/-- WHAT fixed GIVES -/
def fixedL (v : Int) (p : Nat) : List UInt8 := (if v < 0 then [45] else []) ++ (Lib.decDigits (v.natAbs / 10 ^ p) ++ [46] ++ low p v.natAbs)
theorem fixed_neg (v : Int) (p : Nat) (h : 0 < v) : fixedL (-v) p = 45 :: fixedL v p := by
  unfold fixedL
  rw [if_pos (by omega), if_neg (by omega), Int.natAbs_neg]
  rfl
theorem fixed_ten (v : Int) (p : Nat) : fixedL (v * 10) (p + 1) = fixedL v p ++ [48] := by
  unfold fixedL
  have e1 : (v * 10).natAbs = v.natAbs * 10 := by rw [Int.natAbs_mul]; rfl
  have e2 : v.natAbs * 10 / 10 ^ (p + 1) = v.natAbs / 10 ^ p := by
    rw [Nat.pow_succ, Nat.mul_div_mul_right _ _ (by omega)]
  have e3 : low (p + 1) (v.natAbs * 10) = low p v.natAbs ++ [48] := by
    have ed : dgt (v.natAbs * 10) = 48 := by unfold dgt; rw [Nat.mul_mod_left]; rfl
    show low p (v.natAbs * 10 / 10) ++ [dgt (v.natAbs * 10)] = _
    rw [Nat.mul_div_cancel _ (by omega), ed]
  rw [e1, e2, e3]
  by_cases h : v < 0
  · rw [if_pos h, if_pos (by omega)]; simp
  · rw [if_neg h, if_neg (by omega)]; simp
/-! what the library's words come to -/
theorem itoa_prefix (v : Int) : Lib.hasPrefix (Lib.itoa v) [45] = decide (v < 0) := by
  unfold Lib.hasPrefix Lib.itoa
  by_cases h : v < 0
  · rw [if_pos h]; simp [h]
  · rw [if_neg h]
    obtain ⟨d, ds, e, hd⟩ := dec_head (v.toNat + 1) v.toNat (by omega)
    rw [e]
    have : (45 : UInt8) ≠ d := by intro hh; subst hh; simp at hd
    have e2 : ([45] : List UInt8).isPrefixOf (d :: ds) = false := by
      show ((45 : UInt8) == d && true) = false
      simp [this]
    rw [e2]; simp [h]
theorem itoa_trim (v : Int) : Lib.trimPrefix (Lib.itoa v) [45] = Lib.decDigits v.natAbs := by
  unfold Lib.trimPrefix
  rw [itoa_prefix]
  unfold Lib.itoa
  by_cases h : v < 0
  · simp [h]
  · simp [h]
    congr 1
    omega
theorem repeat_zero : ∀ c, Lib.repeatL [48] c = List.replicate c 48
  | 0 => rfl
  | c + 1 => by rw [Lib.repeatL, repeat_zero c]; rfl
end Go.Proofs.Qxb6605193aDoor
