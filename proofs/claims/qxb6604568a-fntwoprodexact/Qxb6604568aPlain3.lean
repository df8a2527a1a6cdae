import Derived.Test.Qxb6604568aPlain2
namespace Go.Proofs.Qxb6604568a
open Ieee
theorem pow_split (a b : Nat) (h : b ≤ a) : 2 ^ (a - b) * 2 ^ b = 2 ^ a := by rw [← Nat.pow_add, Nat.sub_add_cancel h]
/-- A rest of at most 2^52 units of 2^e is a number of the format. -/
theorem rest_can {r : Nat} {e : Int} (h0 : 0 < r) (h1 : r ≤ 4503599627370496) (h2 : -1074 ≤ e) (h3 : e ≤ 971) : ∃ z : Nat, z ≤ 52 ∧ Can (r * 2 ^ z) (e - z) := by
  have hr : r ≠ 0 := by omega
  have hl : r.log2 ≤ 52 := Nat.le_of_lt_succ ((Nat.log2_lt hr).2 (by omega))
  have g1 : 2 ^ r.log2 ≤ r := Nat.log2_self_le hr
  have g2 : r < 2 ^ (r.log2 + 1) := (Nat.log2_lt hr).1 (Nat.lt_succ_self _)
  by_cases h : ((52 - r.log2 : Nat) : Int) ≤ e + 1074
  · refine ⟨52 - r.log2, by omega, .inr ⟨?_, ?_, by omega, by omega⟩⟩
    · have := Nat.mul_le_mul_right (2 ^ (52 - r.log2)) g1
      rw [← Nat.pow_add, show r.log2 + (52 - r.log2) = 52 by omega, pw52] at this
      exact this
    · have := (Nat.mul_lt_mul_right (Nat.two_pow_pos (52 - r.log2))).2 g2
      rw [← Nat.pow_add, show r.log2 + 1 + (52 - r.log2) = 53 by omega, pw53] at this
      exact this
  · refine ⟨(e + 1074).toNat, by omega, .inl ⟨?_, by omega⟩⟩
    have h4 := (Nat.mul_lt_mul_right (Nat.two_pow_pos (e + 1074).toNat)).2 g2
    rw [← Nat.pow_add] at h4
    have h5 : 2 ^ (r.log2 + 1 + (e + 1074).toNat) ≤ 2 ^ 52 := Nat.pow_le_pow_right (by omega) (by omega)
    rw [pw52] at h5
    omega
/-- The sum of a number and one of the other sign. -/
theorem sum_diff (s : Bool) (P Q : Nat) (b : Int) (i j : Int) (m n : Nat) (hb : b = min i j) (hP : P = m * 2 ^ (i - b).toNat) (hQ : Q = n * 2 ^ (j - b).toNat) :
    (Datum.number s m i).sum (.number (!s) n j) = some (if P = Q then .number false 0 b else if Q < P then .number s (P - Q) b else .number (!s) (Q - P) b) := by
  subst hb
  simp only [Datum.sum, signed_eq, ← hP, ← hQ]
  by_cases h1 : P = Q
  · rw [if_pos h1]
    subst h1
    cases s
    · simp
      omega
    · simp
      omega
  · rw [if_neg h1]
    by_cases h2 : Q < P
    · rw [if_pos h2]
      cases s
      · simp only [Bool.false_eq_true, if_false, Bool.not_false, if_true]
        rw [if_neg (by omega)]
        refine congrArg some ?_
        congr 1
        all_goals first | omega | (simp; done) | (simp; omega)
      · simp only [Bool.false_eq_true, if_false, Bool.not_true, if_true]
        rw [if_neg (by omega)]
        refine congrArg some ?_
        congr 1
        all_goals first | omega | (simp; done) | (simp; omega)
    · rw [if_neg h2]
      cases s
      · simp only [Bool.false_eq_true, if_false, Bool.not_false, if_true]
        rw [if_neg (by omega)]
        refine congrArg some ?_
        congr 1
        all_goals first | omega | (simp; done) | (simp; omega)
      · simp only [Bool.false_eq_true, if_false, Bool.not_true, if_true]
        rw [if_neg (by omega)]
        refine congrArg some ?_
        congr 1
        all_goals first | omega | (simp; done) | (simp; omega)
/-- The sum of two numbers of one sign. -/
theorem sum_same (s : Bool) (P Q : Nat) (b : Int) (i j : Int) (m n : Nat) (hb : b = min i j) (hP : P = m * 2 ^ (i - b).toNat) (hQ : Q = n * 2 ^ (j - b).toNat) (h0 : 0 < P) :
    (Datum.number s m i).sum (.number s n j) = some (.number s (P + Q) b) := by
  subst hb
  simp only [Datum.sum, signed_eq, ← hP, ← hQ]
  cases s
  · simp only [Bool.false_eq_true, if_false]
    rw [if_neg (by omega)]
    refine congrArg some ?_
    congr 1
    all_goals first | omega | (simp; done) | (simp; omega)
  · simp only [if_true]
    rw [if_neg (by omega)]
    refine congrArg some ?_
    congr 1
    all_goals first | omega | (simp; done) | (simp; omega)
/-- .. and with a zero, whatever its sign. -/
theorem sum_zero (s t : Bool) (P : Nat) (b : Int) (i j : Int) (m : Nat) (hb : b = min i j) (hP : P = m * 2 ^ (i - b).toNat) (h0 : 0 < P) :
    (Datum.number s m i).sum (.number t 0 j) = some (.number s P b) := by
  subst hb
  simp only [Datum.sum, signed_eq, ← hP, Nat.zero_mul]
  cases s
  · cases t
    · simp only [Bool.false_eq_true, if_false]
      rw [if_neg (by omega)]
      refine congrArg some ?_
      congr 1
      all_goals first | omega | (simp; done) | (simp; omega)
    · simp only [Bool.false_eq_true, if_false, if_true]
      rw [if_neg (by omega)]
      refine congrArg some ?_
      congr 1
      all_goals first | omega | (simp; done) | (simp; omega)
  · cases t
    · simp only [Bool.false_eq_true, if_false, if_true]
      rw [if_neg (by omega)]
      refine congrArg some ?_
      congr 1
      all_goals first | omega | (simp; done) | (simp; omega)
    · simp only [if_true]
      rw [if_neg (by omega)]
      refine congrArg some ?_
      congr 1
      all_goals first | omega | (simp; done) | (simp; omega)
end Go.Proofs.Qxb6604568a
