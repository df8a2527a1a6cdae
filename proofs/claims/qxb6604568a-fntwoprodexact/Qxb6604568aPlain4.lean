import Derived.Test.Qxb6604568aPlain3
namespace Go.Proofs.Qxb6604568a
open Ieee
theorem prod_bounds {M N : Nat} (h1 : 4503599627370496 ≤ M) (h2 : M < 9007199254740992) (h3 : 4503599627370496 ≤ N) (h4 : N < 9007199254740992) : 20282409603651670423947251286016 ≤ M * N ∧ M * N ≤ 81129638414606663681390495662081 := by
  have a := Nat.mul_le_mul h1 h3
  have b := Nat.mul_le_mul (Nat.le_of_lt_succ h2) (Nat.le_of_lt_succ h4)
  exact ⟨a, b⟩
/-- THE LAW OF THE DOUBLE-DOUBLE PRODUCT, on words. -/
theorem main_law {a b hi y : Nat} {s t : Bool} {m n : Nat} {i j : Int} (ha : double.read a = .number s m i) (hb : double.read b = .number t n j) (k l : Nat)
    (hM1 : 4503599627370496 ≤ m * 2 ^ k) (hM2 : m * 2 ^ k < 9007199254740992) (hN1 : 4503599627370496 ≤ n * 2 ^ l) (hN2 : n * 2 ^ l < 9007199254740992)
    (e : Int) (he : e = (i - k) + (j - l)) (hge : -1074 ≤ e) (hhi : hi = double.nearest (s ^^ t) (m * n) (i + j)) (hfin : ∀ g, double.read hi ≠ .infinity g) (hy : double.read y = (double.read hi).opposite) :
    ∃ (mh u lo : Nat), double.fma a b y = some lo ∧ double.read hi = .number (s ^^ t) mh (e + u) ∧ 4503599627370496 ≤ mh ∧ mh < 9007199254740992 ∧ 52 ≤ u ∧ u ≤ 54 ∧ double.add hi lo = some hi ∧
      ((m * 2 ^ k * (n * 2 ^ l) = mh * 2 ^ u ∧ double.read lo = .number false 0 (-1074)) ∨
        ∃ r z : Nat, 0 < r ∧ r ≤ 4503599627370496 ∧ z ≤ 52 ∧ Can (r * 2 ^ z) (e - z) ∧
          ((m * 2 ^ k * (n * 2 ^ l) = mh * 2 ^ u + r ∧ double.read lo = .number (s ^^ t) (r * 2 ^ z) (e - z)) ∨
           (m * 2 ^ k * (n * 2 ^ l) + r = mh * 2 ^ u ∧ double.read lo = .number (!(s ^^ t)) (r * 2 ^ z) (e - z)))) := by
  obtain ⟨hX1, hX2⟩ := prod_bounds hM1 hM2 hN1 hN2
  have hXe : m * 2 ^ k * (n * 2 ^ l) = m * n * 2 ^ (k + l) := by
    rw [Nat.pow_add]; ac_rfl
  have hmn : 0 < m * n := by
    rcases Nat.eq_zero_or_pos (m * n) with h | h
    · rw [hXe, h, Nat.zero_mul] at hX1; omega
    · exact h
  generalize hst : (s ^^ t) = st at *
  generalize hX : m * 2 ^ k * (n * 2 ^ l) = X at *
  have hiX : double.nearest st X e = hi := by
    rw [hhi]
    exact nearest_eq st hmn (k + l) hXe (by omega)
  rcases round_prod st X e hX1 hX2 hge with hr | ⟨mh, u, hr, hm1, hm2, hu1, hu2, hb1, hb2⟩
  · rw [hiX] at hr; exact absurd hr (hfin st)
  rw [hiX] at hr
  have hcan := read_can hr
  have heu : e + u ≤ 971 := by rcases hcan with h | h <;> omega
  have hH : 0 < mh * 2 ^ u := Nat.mul_pos (by omega) (Nat.two_pow_pos u)
  rw [hr] at hy
  -- the fused product and sum
  have hfma : double.fma a b y = ((Datum.number st (m * n) (i + j)).sum (.number (!st) mh (e + u))).map double.write := by
    unfold Format.fma
    rw [ha, hb, hy]
    simp only [Datum.product, Option.bind_some, Datum.opposite, hst]
  have hij : i + j = e + ((k + l : Nat) : Int) := by omega
  -- both at the common place
  have hv1 : min (k + l) u ≤ k + l := Nat.min_le_left _ _
  have hv2 : min (k + l) u ≤ u := Nat.min_le_right _ _
  generalize hv : min (k + l) u = v at hv1 hv2
  have hbase : e + (v : Int) = min (i + j) (e + u) := by omega
  have hP := sum_diff st (m * n * 2 ^ (k + l - v)) (mh * 2 ^ (u - v)) (e + v) (i + j) (e + u) (m * n) mh hbase (by rw [show (i + j - (e + (v : Int))).toNat = k + l - v by omega]) (by rw [show (e + (u : Int) - (e + (v : Int))).toNat = u - v by omega])
  rw [hP] at hfma
  have eP : m * n * 2 ^ (k + l - v) * 2 ^ v = X := by rw [Nat.mul_assoc, pow_split _ _ hv1, hXe]
  have eQ : mh * 2 ^ (u - v) * 2 ^ v = mh * 2 ^ u := by rw [Nat.mul_assoc, pow_split _ _ hv2]
  generalize m * n * 2 ^ (k + l - v) = P at *
  generalize mh * 2 ^ (u - v) = Q at *
  have hpv : 0 < 2 ^ v := Nat.two_pow_pos v
  by_cases hPQ : P = Q
  · -- nothing is left over
    rw [if_pos hPQ] at hfma
    have hXH : X = mh * 2 ^ u := by rw [← eP, ← eQ, hPQ]
    refine ⟨mh, u, _, hfma, hr, hm1, hm2, hu1, hu2, ?_, .inl ⟨hXH, nearest_zero _ _⟩⟩
    unfold Format.add
    rw [hr]
    have hz : double.read (double.write (.number false 0 (e + v))) = .number false 0 (-1074) := nearest_zero _ _
    rw [hz, sum_zero st false (mh * 2 ^ (e + u + 1074).toNat) (-1074) (e + u) (-1074) mh (by omega) (by rw [show (e + (u : Int) - -1074).toNat = (e + u + 1074).toNat by omega]) (Nat.mul_pos (by omega) (Nat.two_pow_pos _))]
    simp only [Option.map_some, Format.write, Option.some.injEq]
    rw [nearest_eq (m := mh) (p := e + u) st (by omega) (e + u + 1074).toNat rfl (by omega), ← hiX, hXH]
    exact (nearest_eq (m := mh) (p := e + u) st (by omega) u rfl (by omega)).symm
  · rw [if_neg hPQ] at hfma
    by_cases hlt : Q < P
    · rw [if_pos hlt] at hfma
      obtain ⟨r, hr0⟩ : ∃ r, r = (P - Q) * 2 ^ v := ⟨_, rfl⟩
      have hrX : X = mh * 2 ^ u + r := by
        rw [hr0, Nat.sub_mul, eP, eQ]
        have : mh * 2 ^ u ≤ X := by rw [← eP, ← eQ]; exact Nat.mul_le_mul_right _ (Nat.le_of_lt hlt)
        omega
      have hrp : 0 < r := by rw [hr0]; exact Nat.mul_pos (by omega) hpv
      obtain ⟨z, hz, hcz⟩ := rest_can hrp (by omega) hge (by omega)
      have hlo : double.read (double.write (.number st (P - Q) (e + v))) = .number st (r * 2 ^ z) (e - z) := by
        show double.read (double.nearest st (P - Q) (e + v)) = _
        rw [← nearest_eq (m := P - Q) (p := e + v) st (by omega) v hr0 (by omega : e = e + v - v), ← nearest_scale st hrp z e]
        exact nearest_can st hcz (Nat.mul_pos hrp (Nat.two_pow_pos z))
      refine ⟨mh, u, _, hfma, hr, hm1, hm2, hu1, hu2, ?_, .inr ⟨r, z, hrp, by omega, hz, hcz, .inl ⟨hrX, hlo⟩⟩⟩
      unfold Format.add
      rw [hr, hlo, sum_same st (mh * 2 ^ (u + z)) (r * 2 ^ z) (e - z) (e + u) (e - z) mh (r * 2 ^ z) (by omega) (by rw [show (e + (u : Int) - (e - z)).toNat = u + z by omega]) (by rw [show (e - (z : Int) - (e - z)).toNat = 0 by omega, Nat.pow_zero, Nat.mul_one]) (Nat.mul_pos (by omega) (Nat.two_pow_pos _))]
      simp only [Option.map_some, Format.write, Option.some.injEq]
      rw [← hiX]
      exact nearest_eq st (by omega) z (by rw [hrX, Nat.add_mul, Nat.mul_assoc, ← Nat.pow_add]) rfl
    · rw [if_neg hlt] at hfma
      obtain ⟨r, hr0⟩ : ∃ r, r = (Q - P) * 2 ^ v := ⟨_, rfl⟩
      have hrX : X + r = mh * 2 ^ u := by
        rw [hr0, Nat.sub_mul, eP, eQ]
        have : X ≤ mh * 2 ^ u := by rw [← eP, ← eQ]; exact Nat.mul_le_mul_right _ (by omega)
        omega
      have hrp : 0 < r := by rw [hr0]; exact Nat.mul_pos (by omega) hpv
      obtain ⟨z, hz, hcz⟩ := rest_can hrp (by omega) hge (by omega)
      have hlo : double.read (double.write (.number (!st) (Q - P) (e + v))) = .number (!st) (r * 2 ^ z) (e - z) := by
        show double.read (double.nearest (!st) (Q - P) (e + v)) = _
        rw [← nearest_eq (m := Q - P) (p := e + v) (!st) (by omega) v hr0 (by omega : e = e + v - v), ← nearest_scale (!st) hrp z e]
        exact nearest_can (!st) hcz (Nat.mul_pos hrp (Nat.two_pow_pos z))
      refine ⟨mh, u, _, hfma, hr, hm1, hm2, hu1, hu2, ?_, .inr ⟨r, z, hrp, by omega, hz, hcz, .inr ⟨hrX, hlo⟩⟩⟩
      unfold Format.add
      have hgt : r * 2 ^ z < mh * 2 ^ (u + z) := by
        rw [Nat.pow_add, ← Nat.mul_assoc]
        exact (Nat.mul_lt_mul_right (Nat.two_pow_pos z)).2 (by omega)
      rw [hr, hlo, sum_diff st (mh * 2 ^ (u + z)) (r * 2 ^ z) (e - z) (e + u) (e - z) mh (r * 2 ^ z) (by omega) (by rw [show (e + (u : Int) - (e - z)).toNat = u + z by omega]) (by rw [show (e - (z : Int) - (e - z)).toNat = 0 by omega, Nat.pow_zero, Nat.mul_one]), if_neg (by omega), if_pos hgt]
      simp only [Option.map_some, Format.write, Option.some.injEq]
      rw [← hiX]
      exact nearest_eq st (by omega) z (by rw [Nat.pow_add, ← Nat.mul_assoc, ← Nat.sub_mul, ← hrX, Nat.add_sub_cancel]) rfl
end Go.Proofs.Qxb6604568a
