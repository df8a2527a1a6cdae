import Derived.Laws.FloatBits
namespace Go.Proofs.Qxb6604568a
open Ieee
theorem dB : double.binade = 4503599627370496 := by decide
theorem dS : double.signWeight = 9223372036854775808 := by decide
theorem dI : double.infRung = 9218868437227405312 := by decide
theorem dL : double.leastPlace = -1074 := by decide
theorem dF : double.fractionBits = 52 := rfl
/-- What stands in a word of the format double. -/
theorem read_word (neg : Bool) (rung : Nat) (h : rung < 9223372036854775808) : double.read (double.word neg rung) =
    if rung < 4503599627370496 then .number neg rung (-1074) else if rung < 9218868437227405312 then .number neg (4503599627370496 + rung % 4503599627370496) (-1074 + ((rung / 4503599627370496 - 1 : Nat) : Int))
    else if rung = 9218868437227405312 then .infinity neg else .nan neg (rung - 9218868437227405312) := by
  unfold Format.read Format.word
  simp only [dB, dS, dI, dL]
  cases neg
  · have e1 : (rung / 9223372036854775808 % 2 == 1) = false := by rw [beq_eq_false_iff_ne]; omega
    have e2 : rung % 9223372036854775808 = rung := by omega
    simp only [Bool.false_eq_true, if_false, e1, e2]
  · have e1 : ((9223372036854775808 + rung) / 9223372036854775808 % 2 == 1) = true := by rw [beq_iff_eq]; omega
    have e2 : (9223372036854775808 + rung) % 9223372036854775808 = rung := by omega
    simp only [if_true, e1, e2]
/-- A finite number as the format reads it. -/
def Can (m : Nat) (p : Int) : Prop := (m < 4503599627370496 ∧ p = -1074) ∨ (4503599627370496 ≤ m ∧ m < 9007199254740992 ∧ -1074 ≤ p ∧ p ≤ 971)
theorem read_can {w : Nat} {s : Bool} {m : Nat} {p : Int} (h : double.read w = .number s m p) : Can m p := by
  unfold Format.read at h
  simp only [dB, dS, dI, dL] at h
  split at h
  · injection h with h1 h2 h3
    left; omega
  · split at h
    · injection h with h1 h2 h3
      right; omega
    · split at h <;> cases h
theorem cut_zero (neg : Bool) (n : Nat) : Toward.even.cut neg n 0 = n := by
  simp [Toward.cut, Nat.mod_one]
theorem log2_scale {n : Nat} (h : 0 < n) (k : Nat) : (n * 2 ^ k).log2 = n.log2 + k := by
  have hn : n ≠ 0 := by omega
  have hp : 0 < 2 ^ k := Nat.two_pow_pos k
  have hm : n * 2 ^ k ≠ 0 := Nat.ne_of_gt (Nat.mul_pos h hp)
  have h1 := Nat.log2_self_le hn
  have h2 : n < 2 ^ (n.log2 + 1) := (Nat.log2_lt hn).1 (Nat.lt_succ_self _)
  apply Nat.le_antisymm
  · apply Nat.le_of_lt_succ
    rw [Nat.log2_lt hm, show (n.log2 + k).succ = (n.log2 + 1) + k by omega, Nat.pow_add]
    exact (Nat.mul_lt_mul_right hp).2 h2
  · rw [Nat.le_log2 hm, Nat.pow_add]
    exact Nat.mul_le_mul_right _ h1
theorem cut_scale (neg : Bool) {n : Nat} (h : 0 < n) (k d : Nat) : Toward.even.cut neg (n * 2 ^ k) (d + k) = Toward.even.cut neg n d := by
  have hp : 0 < 2 ^ k := Nat.two_pow_pos k
  unfold Toward.cut
  simp only [log2_scale h, Nat.one_shiftLeft]
  have e : min (d + k) (n.log2 + k + 2) = min d (n.log2 + 2) + k := by omega
  rw [e, Nat.pow_add, Nat.mul_div_mul_right _ _ hp, Nat.mul_mod_mul_right]
  generalize 2 ^ min d (n.log2 + 2) = G
  have e1 : (decide (G * 2 ^ k < 2 * (n % G * 2 ^ k))) = decide (G < 2 * (n % G)) := by
    rw [← Nat.mul_assoc, decide_eq_decide]
    exact Nat.mul_lt_mul_right hp
  have e2 : (G * 2 ^ k == 2 * (n % G * 2 ^ k)) = (G == 2 * (n % G)) := by
    rw [← Nat.mul_assoc, Bool.eq_iff_iff, beq_iff_eq, beq_iff_eq]
    exact Nat.mul_left_inj (by omega)
  rw [e1, e2]
/-- THE NEAREST WORD HANGS ON THE VALUE ALONE. -/
theorem nearest_scale (neg : Bool) {mag : Nat} (h : 0 < mag) (k : Nat) (place : Int) : double.nearest neg (mag * 2 ^ k) (place - k) = double.nearest neg mag place := by
  have hp : 0 < 2 ^ k := Nat.two_pow_pos k
  have hm : mag * 2 ^ k ≠ 0 := Nat.ne_of_gt (Nat.mul_pos h hp)
  unfold Format.nearest
  rw [if_neg hm, if_neg (by omega)]
  simp only [log2_scale h]
  have e : place - (k : Int) + ((mag.log2 + k : Nat) : Int) - (double.fractionBits : Int) = place + (mag.log2 : Int) - (double.fractionBits : Int) := by omega
  rw [e]
  generalize max (place + (mag.log2 : Int) - (double.fractionBits : Int)) double.leastPlace = last
  have key : Toward.even.cut neg ((mag * 2 ^ k) <<< (place - k - last).toNat) (last - (place - k)).toNat = Toward.even.cut neg (mag <<< (place - last).toNat) (last - place).toNat := by
    simp only [Nat.shiftLeft_eq]
    by_cases h1 : (k : Int) ≤ place - last
    · rw [show (last - (place - k)).toNat = 0 by omega, show (last - place).toNat = 0 by omega, Nat.mul_assoc, ← Nat.pow_add, show k + (place - k - last).toNat = (place - last).toNat by omega]
    · by_cases h2 : 0 ≤ place - last
      · rw [show (place - k - last).toNat = 0 by omega, show (last - place).toNat = 0 by omega, Nat.pow_zero, Nat.mul_one]
        have e1 : mag * 2 ^ k = (mag * 2 ^ (place - last).toNat) * 2 ^ (last - (place - k)).toNat := by
          rw [Nat.mul_assoc, ← Nat.pow_add, show (place - last).toNat + (last - (place - k)).toNat = k by omega]
        rw [e1]
        have := cut_scale neg (Nat.mul_pos h (Nat.two_pow_pos (place - last).toNat)) (last - (place - k)).toNat 0
        rwa [Nat.zero_add] at this
      · rw [show (place - k - last).toNat = 0 by omega, show (place - last).toNat = 0 by omega, Nat.pow_zero, Nat.mul_one, Nat.mul_one]
        rw [show (last - (place - k)).toNat = (last - place).toNat + k by omega]
        exact cut_scale neg h k _
  rw [key]
/-- What the format has is written as it is. -/
theorem nearest_can (neg : Bool) {m : Nat} {p : Int} (h : Can m p) (h0 : 0 < m) : double.read (double.nearest neg m p) = .number neg m p := by
  have hm : m ≠ 0 := by omega
  unfold Format.nearest
  rw [if_neg hm]
  simp only [dB, dI, dL, dF]
  rcases h with ⟨h1, rfl⟩ | ⟨h1, h2, h3, h4⟩
  · have hl : m.log2 < 52 := (Nat.log2_lt hm).2 (by omega)
    rw [show max (-1074 + (m.log2 : Int) - ((52 : Nat) : Int)) (-1074) = -1074 by omega]
    rw [show ((-1074 : Int) - -1074).toNat = 0 by omega, Nat.shiftLeft_zero, cut_zero]
    rw [show min (0 * 4503599627370496 + m) 9218868437227405312 = m by omega]
    rw [read_word neg m (by omega), if_pos h1]
  · have hl : m.log2 = 52 := by
      apply Nat.le_antisymm
      · exact Nat.le_of_lt_succ ((Nat.log2_lt hm).2 (by omega))
      · exact (Nat.le_log2 hm).2 (by omega)
    rw [hl, show max (p + ((52 : Nat) : Int) - ((52 : Nat) : Int)) (-1074) = p by omega]
    rw [show (p - p).toNat = 0 by omega, Nat.shiftLeft_zero, cut_zero]
    rw [show min ((p - -1074).toNat * 4503599627370496 + m) 9218868437227405312 = (p - -1074).toNat * 4503599627370496 + m by omega]
    rw [read_word neg _ (by omega), if_neg (by omega), if_pos (by omega)]
    congr 1
    · omega
    · omega
theorem nearest_zero (neg : Bool) (p : Int) : double.read (double.nearest neg 0 p) = .number neg 0 (-1074) := by
  unfold Format.nearest
  rw [if_pos rfl, read_word neg 0 (by omega), if_pos (by omega)]
/-- Two ways of writing one value. -/
theorem nearest_eq (neg : Bool) {m n : Nat} (hm : 0 < m) (k : Nat) {p q : Int} (h1 : n = m * 2 ^ k) (h2 : q = p - k) : double.nearest neg n q = double.nearest neg m p := by
  subst h1 h2
  exact nearest_scale neg hm k p
theorem cut_le (neg : Bool) (X d : Nat) (hd : d ≤ X.log2 + 2) : Toward.even.cut neg X d = X / 2 ^ d + (decide (2 ^ d < 2 * (X % 2 ^ d)) || (2 ^ d == 2 * (X % 2 ^ d) && X / 2 ^ d % 2 == 1)).toNat := by
  unfold Toward.cut
  simp only [Nat.one_shiftLeft, Nat.min_eq_left hd]
theorem pw52 : (2 : Nat) ^ 52 = 4503599627370496 := by decide
theorem pw53 : (2 : Nat) ^ 53 = 9007199254740992 := by decide
theorem pw54 : (2 : Nat) ^ 54 = 18014398509481984 := by decide
theorem bnd1 (X c : Nat) (h : c = 9007199254740992) (h3 : c * 4503599627370496 ≤ X + 2251799813685248) : 4503599627370496 * 2 ^ 53 ≤ X + 4503599627370496 := by
  have e : 4503599627370496 * 2 ^ 53 = c * 4503599627370496 := by rw [h]
  rw [e]; omega
theorem bnd2 (X c : Nat) (h : c = 9007199254740992) (h3 : X ≤ c * 4503599627370496 + 2251799813685248) : X ≤ 4503599627370496 * 2 ^ 53 + 4503599627370496 := by
  have e : 4503599627370496 * 2 ^ 53 = c * 4503599627370496 := by rw [h]
  rw [e]; exact Nat.le_trans h3 (Nat.add_le_add_left (by decide) _)
theorem bnd3 (X c : Nat) (h3 : c * 4503599627370496 ≤ X + 2251799813685248) : c * 2 ^ 52 ≤ X + 4503599627370496 := by
  have e : c * 2 ^ 52 = c * 4503599627370496 := by rw [pw52]
  rw [e]; omega
theorem bnd4 (X c : Nat) (h3 : X ≤ c * 4503599627370496 + 2251799813685248) : X ≤ c * 2 ^ 52 + 4503599627370496 := by
  have e : c * 2 ^ 52 = c * 4503599627370496 := by rw [pw52]
  rw [e]; exact Nat.le_trans h3 (Nat.add_le_add_left (by decide) _)
theorem bnd5 (X c : Nat) (h : c = 9007199254740992) (h3 : c * 9007199254740992 ≤ X + 4503599627370496) : 4503599627370496 * 2 ^ 54 ≤ X + 4503599627370496 := by
  have e : 4503599627370496 * 2 ^ 54 = c * 9007199254740992 := by rw [h]
  rw [e]; omega
theorem bnd6 (X c : Nat) (h : c = 9007199254740992) (h3 : X ≤ c * 9007199254740992 + 4503599627370496) : X ≤ 4503599627370496 * 2 ^ 54 + 4503599627370496 := by
  have e : 4503599627370496 * 2 ^ 54 = c * 9007199254740992 := by rw [h]
  rw [e]; omega
theorem bnd7 (X c : Nat) (h3 : c * 9007199254740992 ≤ X + 4503599627370496) : c * 2 ^ 53 ≤ X + 4503599627370496 := by
  have e : c * 2 ^ 53 = c * 9007199254740992 := by rw [pw53]
  rw [e]; omega
theorem bnd8 (X c : Nat) (h3 : X ≤ c * 9007199254740992 + 4503599627370496) : X ≤ c * 2 ^ 53 + 4503599627370496 := by
  have e : c * 2 ^ 53 = c * 9007199254740992 := by rw [pw53]
  rw [e]; omega
/-- THE PRODUCT, ROUNDED: for a product of two full significands at a place on the grid: hi reads m' * 2^(e + u), u 52 or 53 or 54, unless it is an infinity; the rest is at most 2^52. -/
theorem round_prod (neg : Bool) (X : Nat) (e : Int) (h1 : 20282409603651670423947251286016 ≤ X) (h2 : X ≤ 81129638414606663681390495662081) (he : -1074 ≤ e) :
    double.read (double.nearest neg X e) = .infinity neg ∨
    ∃ (m u : Nat), double.read (double.nearest neg X e) = .number neg m (e + u) ∧ 4503599627370496 ≤ m ∧ m < 9007199254740992 ∧ 52 ≤ u ∧ u ≤ 54 ∧ (m * 2 ^ u ≤ X + 4503599627370496) ∧ (X ≤ m * 2 ^ u + 4503599627370496) := by
  have hX : X ≠ 0 := by omega
  by_cases hL : X < 40564819207303340847894502572032
  · have hl : X.log2 = 104 := by
      apply Nat.le_antisymm
      · exact Nat.le_of_lt_succ ((Nat.log2_lt hX).2 (by omega))
      · exact (Nat.le_log2 hX).2 (by omega)
    have hc := cut_le neg X 52 (by omega)
    rw [show (2 : Nat) ^ 52 = 4503599627370496 by decide] at hc
    have hk : ∃ c, Toward.even.cut neg X 52 = c ∧ 4503599627370496 ≤ c ∧ c ≤ 9007199254740992 ∧ c * 4503599627370496 ≤ X + 2251799813685248 ∧ X ≤ c * 4503599627370496 + 2251799813685248 := by
      refine ⟨_, hc, ?_⟩
      cases hb : (decide (4503599627370496 < 2 * (X % 4503599627370496)) || (4503599627370496 == 2 * (X % 4503599627370496) && X / 4503599627370496 % 2 == 1))
      · simp only [Bool.or_eq_false_iff, decide_eq_false_iff_not, Bool.toNat_false] at hb ⊢
        omega
      · simp only [Bool.or_eq_true, decide_eq_true_eq, Bool.and_eq_true, beq_iff_eq, Bool.toNat_true] at hb ⊢
        omega
    obtain ⟨c, hcut, c1, c2, c3, c4⟩ := hk
    have hn : double.nearest neg X e = double.word neg (min ((e + 52 - -1074).toNat * 4503599627370496 + c) 9218868437227405312) := by
      unfold Format.nearest
      rw [if_neg hX]
      simp only [dB, dI, dL, dF, hl]
      rw [show max (e + ((104 : Nat) : Int) - ((52 : Nat) : Int)) (-1074) = e + 52 by omega, show (e - (e + 52)).toNat = 0 by omega, show (e + 52 - e).toNat = 52 by omega, Nat.shiftLeft_zero, hcut]
    rw [hn]
    by_cases hi : 9218868437227405312 ≤ (e + 52 - -1074).toNat * 4503599627370496 + c
    · left
      rw [Nat.min_eq_right hi, read_word neg _ (by omega), if_neg (by omega), if_neg (by omega), if_pos rfl]
    · right
      rw [Nat.min_eq_left (Nat.le_of_lt (Nat.lt_of_not_le hi)), read_word neg _ (by omega), if_neg (by omega), if_pos (by omega)]
      by_cases hc2 : c = 9007199254740992
      · refine ⟨4503599627370496, 53, ?_, by omega, by omega, by omega, by omega, bnd1 X c hc2 c3, bnd2 X c hc2 c4⟩
        congr 1
        · omega
        · omega
      · refine ⟨c, 52, ?_, by omega, by omega, by omega, by omega, bnd3 X c c3, bnd4 X c c4⟩
        congr 1
        · omega
        · omega
  · have hl : X.log2 = 105 := by
      apply Nat.le_antisymm
      · exact Nat.le_of_lt_succ ((Nat.log2_lt hX).2 (by omega))
      · exact (Nat.le_log2 hX).2 (by omega)
    have hc := cut_le neg X 53 (by omega)
    rw [show (2 : Nat) ^ 53 = 9007199254740992 by decide] at hc
    have hk : ∃ c, Toward.even.cut neg X 53 = c ∧ 4503599627370496 ≤ c ∧ c ≤ 9007199254740992 ∧ c * 9007199254740992 ≤ X + 4503599627370496 ∧ X ≤ c * 9007199254740992 + 4503599627370496 := by
      refine ⟨_, hc, ?_⟩
      cases hb : (decide (9007199254740992 < 2 * (X % 9007199254740992)) || (9007199254740992 == 2 * (X % 9007199254740992) && X / 9007199254740992 % 2 == 1))
      · simp only [Bool.or_eq_false_iff, decide_eq_false_iff_not, Bool.toNat_false] at hb ⊢
        omega
      · simp only [Bool.or_eq_true, decide_eq_true_eq, Bool.and_eq_true, beq_iff_eq, Bool.toNat_true] at hb ⊢
        omega
    obtain ⟨c, hcut, c1, c2, c3, c4⟩ := hk
    have hn : double.nearest neg X e = double.word neg (min ((e + 53 - -1074).toNat * 4503599627370496 + c) 9218868437227405312) := by
      unfold Format.nearest
      rw [if_neg hX]
      simp only [dB, dI, dL, dF, hl]
      rw [show max (e + ((105 : Nat) : Int) - ((52 : Nat) : Int)) (-1074) = e + 53 by omega, show (e - (e + 53)).toNat = 0 by omega, show (e + 53 - e).toNat = 53 by omega, Nat.shiftLeft_zero, hcut]
    rw [hn]
    by_cases hi : 9218868437227405312 ≤ (e + 53 - -1074).toNat * 4503599627370496 + c
    · left
      rw [Nat.min_eq_right hi, read_word neg _ (by omega), if_neg (by omega), if_neg (by omega), if_pos rfl]
    · right
      rw [Nat.min_eq_left (Nat.le_of_lt (Nat.lt_of_not_le hi)), read_word neg _ (by omega), if_neg (by omega), if_pos (by omega)]
      by_cases hc2 : c = 9007199254740992
      · refine ⟨4503599627370496, 54, ?_, by omega, by omega, by omega, by omega, bnd5 X c hc2 c3, bnd6 X c hc2 c4⟩
        congr 1
        · omega
        · omega
      · refine ⟨c, 53, ?_, by omega, by omega, by omega, by omega, bnd7 X c c3, bnd8 X c c4⟩
        congr 1
        · omega
        · omega
end Go.Proofs.Qxb6604568a
