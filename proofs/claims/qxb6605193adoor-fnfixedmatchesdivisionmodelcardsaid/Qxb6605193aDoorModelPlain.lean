/-
  The plain mathematics of fixedDivModel: digits built back to front. No run of a program in sight.
-/
import Derived.Test.Qxb6605193aDoorPlain
namespace Go.Proofs.Qxb6605193aDoor
theorem low_front : ∀ k u, low (k + 1) u = dgt (u / 10 ^ k) :: low k u
  | 0, u => by simp [low]
  | k + 1, u => by
    have ih := low_front k (u / 10)
    have e : u / 10 / 10 ^ k = u / 10 ^ (k + 1) := by rw [Nat.div_div_eq_div_mul, Nat.pow_succ, Nat.mul_comm]
    rw [e] at ih
    show low (k + 1) (u / 10) ++ [dgt u] = _
    rw [ih]
    rfl
theorem low_rev (k u : Nat) : (low (k + 1) u).reverse = (low k u).reverse ++ [dgt (u / 10 ^ k)] := by
  rw [low_front]; simp
theorem div_next (k u : Nat) : u / 10 ^ k / 10 = u / 10 ^ (k + 1) := by rw [Nat.div_div_eq_div_mul, Nat.pow_succ]
/-- what is left to be written, front to back -/
def rest (m : Nat) : List UInt8 := if m = 0 then [] else Lib.decDigits m
theorem rest_step (m : Nat) (h : 0 < m) : rest m = rest (m / 10) ++ [dgt m] := by
  unfold rest
  rw [if_neg (by omega)]
  by_cases hm : m < 10
  · rw [if_pos (by omega), dec_small m hm]; rfl
  · rw [if_neg (by omega), dec_step m (by omega)]
/-- the second loop's bond: what is written (back to front) and what is left -/
def Bond (U m : Nat) (W : List UInt8) : Prop := Lib.decDigits U = rest m ++ W.reverse
theorem Bond.zero : Bond 0 0 [48] := by
  unfold Bond rest; rw [if_pos rfl, dec_small 0 (by omega)]; rfl
theorem Bond.start (U : Nat) (h : U ≠ 0) : Bond U U [] := by
  unfold Bond rest; rw [if_neg h]; simp
theorem Bond.step {U m : Nat} {W : List UInt8} (h : Bond U m W) (hm : 0 < m) : Bond U (m / 10) (W ++ [dgt m]) := by
  unfold Bond at h ⊢
  rw [h, rest_step m hm]; simp
theorem Bond.len {U m : Nat} {W : List UInt8} (h : Bond U m W) : W.length + (rest m).length = (Lib.decDigits U).length := by
  unfold Bond at h
  rw [h]; simp; omega
theorem rest_pos (m : Nat) (h : 0 < m) : 1 ≤ (rest m).length := by
  rw [rest_step m h]; simp
/-- the text, back to front -/
def backL (v : Int) (p : Nat) (W : List UInt8) : List UInt8 := (low p v.natAbs).reverse ++ [46] ++ W ++ (if v < 0 then [45] else [])
theorem back_fixed (v : Int) (p : Nat) (W : List UInt8) (h : Bond (v.natAbs / 10 ^ p) 0 W) : (backL v p W).reverse = fixedL v p := by
  unfold backL fixedL
  have hW : Lib.decDigits (v.natAbs / 10 ^ p) = W.reverse := by
    unfold Bond rest at h; rw [if_pos rfl] at h; simpa using h
  rw [hW]
  by_cases hv : v < 0
  · rw [if_pos hv]; simp
  · rw [if_neg hv]; simp
end Go.Proofs.Qxb6605193aDoor
