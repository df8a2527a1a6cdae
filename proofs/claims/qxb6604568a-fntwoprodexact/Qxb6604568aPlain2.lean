import Derived.Test.Qxb6604568aPlain
namespace Go.Proofs.Qxb6604568a
open Ieee
theorem signed_eq (neg : Bool) (mag up : Nat) : signed neg mag up = if neg then -((mag * 2 ^ up : Nat) : Int) else ((mag * 2 ^ up : Nat) : Int) := by
  unfold signed
  rw [Nat.shiftLeft_eq]
theorem mul_num {x y : Nat} {s t : Bool} {m n : Nat} {i j : Int} (hx : double.read x = .number s m i) (hy : double.read y = .number t n j) : double.mul x y = some (double.nearest (s ^^ t) (m * n) (i + j)) := by
  unfold Format.mul
  rw [hx, hy]
  rfl
theorem cmp_lt {a b : Int} (h : a < b) : compare a b = .lt := by
  simp [compare, compareOfLessAndEq, h]
theorem cmp_gt {a b : Int} (h : b < a) : compare a b = .gt := by
  simp [compare, compareOfLessAndEq, show ¬ a < b by omega, show ¬ a = b by omega]
theorem cmp_eq {a b : Int} (h : a = b) : compare a b = .eq := by
  subst h
  simp [compare, compareOfLessAndEq]
theorem ord_num {x y : Nat} {s t : Bool} {m n : Nat} {i j : Int} (hx : double.read x = .number s m i) (hy : double.read y = .number t n j) : double.order x y = some (compare (signed s m (i - min i j).toNat) (signed t n (j - min i j).toNat)) := by
  unfold Format.order
  rw [hx, hy]
  rfl
theorem r0 : double.read 0 = .number false 0 (-1074) := by decide +kernel
theorem rHalf : double.read 4602678819172646912 = .number false 4503599627370496 (-53) := by decide +kernel
theorem rTwo : double.read 4611686018427387904 = .number false 4503599627370496 (-51) := by decide +kernel
theorem r53 : double.read 4845873199050653696 = .number false 4503599627370496 1 := by decide +kernel
theorem r52 : double.read 4841369599423283200 = .number false 4503599627370496 0 := by decide +kernel
theorem ord_self {x : Nat} {s : Bool} {m : Nat} {i : Int} (hx : double.read x = .number s m i) : double.order x x = some .eq := by
  rw [ord_num hx hx, cmp_eq rfl]
theorem ord_zero {x : Nat} {s : Bool} {i : Int} (hx : double.read x = .number s 0 i) : double.order x 0 = some .eq := by
  rw [ord_num hx r0, cmp_eq]
  cases s <;> simp [signed_eq]
theorem ord_neg {x : Nat} {m : Nat} {i : Int} (h : 0 < m) (hx : double.read x = .number true m i) : double.order x 0 = some .lt := by
  rw [ord_num hx r0, cmp_lt]
  have := Nat.mul_pos h (Nat.two_pow_pos (i - min i (-1074)).toNat)
  simp only [signed_eq, Nat.zero_mul, if_true, Bool.false_eq_true, if_false]
  omega
theorem ord_pos {x : Nat} {m : Nat} {i : Int} (h : 0 < m) (hx : double.read x = .number false m i) : double.order x 0 = some .gt := by
  rw [ord_num hx r0, cmp_gt]
  have := Nat.mul_pos h (Nat.two_pow_pos (i - min i (-1074)).toNat)
  simp only [signed_eq, Nat.zero_mul, Bool.false_eq_true, if_false]
  omega
theorem ord_big {x : Nat} {m : Nat} {i : Int} (hm : 4503599627370496 ≤ m) (hi : 1 ≤ i) (hx : double.read x = .number false m i) : double.order x 4845873199050653696 = some .gt ∨ double.order x 4845873199050653696 = some .eq := by
  rw [ord_num hx r53]
  have e1 : min i 1 = 1 := by omega
  rw [e1]
  simp only [signed_eq, Bool.false_eq_true, if_false]
  have h1 : 4503599627370496 * 1 ≤ m * 2 ^ (i - 1).toNat := Nat.mul_le_mul hm (Nat.two_pow_pos _)
  rw [show ((1 : Int) - 1).toNat = 0 by decide, Nat.pow_zero]
  rcases Nat.lt_or_eq_of_le h1 with h2 | h2
  · left; rw [cmp_gt (by omega)]
  · right; rw [cmp_eq (by omega)]
theorem two_le_pow {k : Nat} (h : 1 ≤ k) : 2 ≤ 2 ^ k := by
  calc 2 = 2 ^ 1 := rfl
    _ ≤ 2 ^ k := Nat.pow_le_pow_right (by omega) h
theorem ord_notbig {x : Nat} {m : Nat} {i : Int} (hm : m < 9007199254740992) (hi : i ≤ 0) (hx : double.read x = .number false m i) : double.order x 4845873199050653696 = some .lt := by
  rw [ord_num hx r53]
  have e1 : min i 1 = i := by omega
  rw [e1, cmp_lt]
  simp only [signed_eq, Bool.false_eq_true, if_false]
  have h1 : 2 ≤ 2 ^ (1 - i).toNat := two_le_pow (by omega)
  have h2 : 4503599627370496 * 2 ≤ 4503599627370496 * 2 ^ (1 - i).toNat := Nat.mul_le_mul_left _ h1
  rw [show (i - i).toNat = 0 by omega, Nat.pow_zero]
  omega
theorem ord_small {x : Nat} {m : Nat} {i : Int} (hm : m < 9007199254740992) (hi : i < 0) (hx : double.read x = .number false m i) : double.order x 4841369599423283200 = some .lt := by
  rw [ord_num hx r52]
  have e1 : min i 0 = i := by omega
  rw [e1, cmp_lt]
  simp only [signed_eq, Bool.false_eq_true, if_false]
  have h1 : 2 ≤ 2 ^ (0 - i).toNat := two_le_pow (by omega)
  have h2 : 4503599627370496 * 2 ≤ 4503599627370496 * 2 ^ (0 - i).toNat := Nat.mul_le_mul_left _ h1
  rw [show (i - i).toNat = 0 by omega, Nat.pow_zero]
  omega
theorem ord_notsmall {x : Nat} {m : Nat} (hm : 4503599627370496 ≤ m) (hx : double.read x = .number false m 0) : double.order x 4841369599423283200 = some .gt ∨ double.order x 4841369599423283200 = some .eq := by
  rw [ord_num hx r52]
  simp only [signed_eq, Bool.false_eq_true, if_false]
  rw [show ((0 : Int) - min 0 0).toNat = 0 by decide, Nat.pow_zero]
  rcases Nat.lt_or_eq_of_le hm with h2 | h2
  · left; rw [cmp_gt (by omega)]
  · right; rw [cmp_eq (by omega)]
/-- 'x * 0.5', exactly. -/
theorem halve {x : Nat} {m : Nat} {i : Int} (h1 : 4503599627370496 ≤ m) (h2 : m < 9007199254740992) (hi : 1 ≤ i) (hi2 : i ≤ 971) (hx : double.read x = .number false m i) :
    ∃ x', double.mul x 4602678819172646912 = some x' ∧ double.read x' = .number false m (i - 1) := by
  refine ⟨_, mul_num hx rHalf, ?_⟩
  rw [nearest_eq (m := m) (p := i - 1) _ (by omega) 52 (by rw [pw52]) (by omega)]
  exact nearest_can _ (.inr ⟨h1, h2, by omega, by omega⟩) (by omega)
/-- 'x * 2', exactly, of a normal number. -/
theorem twice {x : Nat} {m : Nat} {i : Int} (h1 : 4503599627370496 ≤ m) (h2 : m < 9007199254740992) (hi : i < 0) (hi2 : -1074 ≤ i) (hx : double.read x = .number false m i) :
    ∃ x', double.mul x 4611686018427387904 = some x' ∧ double.read x' = .number false m (i + 1) := by
  refine ⟨_, mul_num hx rTwo, ?_⟩
  rw [nearest_eq (m := m) (p := i + 1) _ (by omega) 52 (by rw [pw52]) (by omega)]
  exact nearest_can _ (.inr ⟨h1, h2, by omega, by omega⟩) (by omega)
theorem pw51 : (2 : Nat) ^ 51 = 2251799813685248 := by decide
/-- 'x * 2', exactly, of a subnormal number. -/
theorem twice_sub {x : Nat} {m : Nat} (h0 : 0 < m) (h1 : m < 4503599627370496) (hx : double.read x = .number false m (-1074)) :
    ∃ x', double.mul x 4611686018427387904 = some x' ∧ double.read x' = .number false (2 * m) (-1074) := by
  refine ⟨_, mul_num hx rTwo, ?_⟩
  rw [nearest_eq (m := 2 * m) (p := -1074) _ (by omega) 51 (by rw [pw51]; omega) (by omega)]
  refine nearest_can _ ?_ (by omega)
  by_cases h : 2 * m < 4503599627370496
  · exact .inl ⟨h, rfl⟩
  · exact .inr ⟨by omega, by omega, by omega, by omega⟩
theorem sub_self {x : Nat} {s : Bool} {m : Nat} {i : Int} (hx : double.read x = .number s m i) : double.sub x x = some 0 := by
  unfold Format.sub
  rw [hx]
  simp only [Datum.opposite, Datum.sum, Option.map_some, Option.some.injEq]
  have e : signed s m (i - min i i).toNat + signed (!s) m (i - min i i).toNat = 0 := by
    cases s <;> simp [signed_eq]
    · omega
    · omega
  rw [e]
  cases s <;> rfl
end Go.Proofs.Qxb6604568a
