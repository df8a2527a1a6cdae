import Derived.Test.Qxb6604568aW1
import Derived.Laws.FloatArith
import Derived.Laws.Rows
import Derived.Deep.WholeRow
import Derived.Deep.QuietTactic
import Derived.BigQuiet
namespace Go.Proofs.Qxb6604568a
open Go.RowKit
open Ieee (double Datum)
theorem xor63 (x : Nat) (h : x < 9223372036854775808) : x ^^^ 2 ^ 63 = x + 9223372036854775808 := by
  apply Nat.eq_of_testBit_eq
  intro j
  rw [Nat.testBit_xor, Nat.testBit_two_pow]
  have e : x + 9223372036854775808 = 2 ^ 63 * 1 + x := by omega
  rw [e]
  rw [Nat.testBit_two_pow_mul_add 1 (by simpa using h)]
  by_cases hj : j < 63
  · rw [if_pos hj]
    have : ¬ 63 = j := by omega
    simp [this]
  · rw [if_neg hj]
    have hx : x.testBit j = false := Nat.testBit_lt_two_pow (Nat.lt_of_lt_of_le h (by
      have : (2 : Nat) ^ 63 ≤ 2 ^ j := Nat.pow_le_pow_right (by omega) (by omega)
      simpa using this))
    rw [hx]
    by_cases e : 63 = j
    · subst e; rfl
    · have h2 : j - 63 ≠ 0 := by omega
      rw [Nat.testBit_lt_two_pow (Nat.one_lt_two_pow h2)]
      simp [e]
theorem read_pos (x : Nat) : double.word false x = x := rfl
theorem read_neg (x : Nat) : double.word true x = x + 9223372036854775808 := by
  show double.signWeight + x = _
  rw [dS]; omega
/-- '-x': the same, its sign turned. -/
theorem neg_read (x : Nat) (h : x < 18446744073709551616) : double.read (Op.negFloat .f64 x) = (double.read x).opposite := by
  have key : ∀ r, r < 9223372036854775808 → double.read (double.word true r) = (double.read (double.word false r)).opposite ∧ double.read (double.word false r) = (double.read (double.word true r)).opposite := by
    intro r hr
    rw [read_word true r hr, read_word false r hr]
    constructor
    · split
      · rfl
      · split
        · rfl
        · split <;> rfl
    · split
      · rfl
      · split
        · rfl
        · split <;> rfl
  have e0 : Op.negFloat .f64 x = x ^^^ 2 ^ 63 := rfl
  rw [e0]
  by_cases hx : x < 9223372036854775808
  · rw [xor63 x hx, ← read_neg]
    exact (key x hx).1
  · obtain ⟨r, rfl⟩ : ∃ r, x = r + 9223372036854775808 := ⟨x - 9223372036854775808, by omega⟩
    have hr : r < 9223372036854775808 := by omega
    rw [← xor63 r hr, Nat.xor_assoc, Nat.xor_self, Nat.xor_zero, xor63 r hr, ← read_neg]
    exact (key r hr).2
theorem info36 : (Try.prog.info? 36).map (·.size) = some 2 := by kernel_rfl
theorem one2 (a b : Nat) : (#[Value.float .f64 a, .float .f64 b] : Array Value).all (·.oneCell') = true := by simp [Value.oneCell']
theorem info36' (a b : Nat) : (Try.prog.info? 36).map (·.size) = some (#[Value.float .f64 a, .float .f64 b] : Array Value).size := info36
theorem fma_run (a b c r : Nat) (h : double.fma a b c = some r) (w : World) : (callFunc 12 #[.float .f64 a, .float .f64 b, .float .f64 c]).run Try.prog w = .ok (.value (.float .f64 r)) w := by
  rw [run_callFunc_extern Try.func12 (by kernel_rfl) (by kernel_rfl) (by kernel_rfl) (e := Extern.MathFMA.fma) (by kernel_rfl)]
  have h' : FloatKind.f64.format.fma a b c = some r := h
  change Result.andThen (Sem.run Try.prog (match FloatKind.f64.format.fma a b c with
    | some r => pure (Value.float .f64 r)
    | none => do
      let (x, y) := if Extern.MathFMA.isNaN a then (a, b) else if Extern.MathFMA.isNaN b then (b, c) else (c, c)
      pure (Value.float .f64 (← choose (.nanBits .f64 x y)))) w) _ = _
  rw [h']
  rfl
set_option maxHeartbeats 400000 in
theorem two_any (a b hi lo : Nat) (w : World) (hm : double.mul a b = some hi) (hf : double.fma a b (Op.negFloat .f64 hi) = some lo) :
    Calls Try.prog 11 #[.float .f64 a, .float .f64 b] w fun e w' => e = .returned (.agg #[.float .f64 hi, .float .f64 lo]) ∧ Below w.heap.size w w' := by
  have hmul := fun w => run_float_arith (P := Try.prog) w .mul 22 .f64 a b hi hm
  have hneg : ∀ (b : Nat) (w : World), (Op.unary .neg (.float .f64 b)).run Try.prog w = .ok (.float .f64 (Op.negFloat .f64 b)) w := fun _ _ => rfl
  have hfma := fma_run a b _ lo hf
  clear hf hm
  go_enter Try.func11, Try.ntmps11
  go_wp2_with (first | (refine wpList_store_row rfl 36 _ _ rfl _ _ rfl rfl 36 _ (heap_alloc_new w _) (info36' hi lo) rfl (one2 hi lo) ?_; rw [World.setRow_alloc_new]) | go_in)
  exact bodyPost_ret (v := .agg #[.float .f64 hi, .float .f64 lo]) (results_cell_row (p := 4) (ty := 36) Try.results11 _ _ w.heap.size 36 _ (0, 0) _ rfl (heap_alloc_new w _) Try.underlying36 rfl info36) rfl ⟨rfl, (Below.refl _ _).alloc (Nat.le_refl _) _⟩
set_option maxHeartbeats 400000 in
theorem zz_any (a b hi lo : Nat) (w : World) (hm : double.mul a b = some hi) (hf : double.fma a b (Op.negFloat .f64 hi) = some lo) :
    Calls Try.prog 4 #[.float .f64 a, .float .f64 b] w fun e w' => e = .returned (.tuple #[.float .f64 hi, .float .f64 lo]) ∧ Below w.heap.size w w' := by
  have HM := hid hm
  have HF := hid hf
  clear hm hf
  go_enter Try.func4, Try.ntmps4
  go_wp2_with fail
  refine (two_any a b hi lo _ HM.out HF.out).mono ?_
  rintro e w1 ⟨rfl, hb⟩
  have HB := hid hb
  clear hb
  go_wp2_with (refine wpList_store_row rfl 36 _ _ rfl _ _ rfl rfl 36 _ (heap_alloc_new w1 _) (info36' hi lo) rfl (one2 hi lo) ?_; rw [World.setRow_alloc_new])
  go_quiet (fail)
  go_wp2
  go_ret2
  exact ⟨rfl, below_drewN (HB.out.alloc HB.out.size _) _⟩
/-- What zzDecomp answers. -/
def RetD (s : Bool) (m : Nat) (i : Int) (e : Ending) : Prop := ∃ k : Nat, 4503599627370496 ≤ m * 2 ^ k ∧ m * 2 ^ k < 9007199254740992 ∧ e = .returned (.tuple #[.bool s, .int .u64 ((m * 2 ^ k : Nat) : Int), .int .i64 (i - k)])
theorem toInt_of {y m : Nat} (h2 : m < 9007199254740992) (h : double.read y = .number false m 0) : floatToIntVal .f64 y .u64 = some (m : Int) := by
  have h' : FloatKind.f64.decode y = .number false m 0 := h
  unfold floatToIntVal
  rw [h']
  have e : (Datum.number false m 0).toInt .zero = some (m : Int) := by
    simp only [Datum.toInt, Datum.integral, Ieee.Toward.cut, Ieee.signed, Int.toNat_zero, Nat.shiftLeft_zero, Int.neg_zero, Nat.zero_min, Nat.div_one, Bool.false_eq_true, if_false, Bool.toNat_false, Nat.add_zero]
  rw [e]
  have h3 : IntKind.u64.min ≤ (m : Int) ∧ (m : Int) ≤ IntKind.u64.max := by
    simp [IntKind.min, IntKind.max, IntKind.signed, IntKind.bits]; omega
  simp only [if_pos h3]
theorem can_normal {m : Nat} {i : Int} (h : Can m i) (hi : -1074 < i) : 4503599627370496 ≤ m ∧ m < 9007199254740992 := by
  rcases h with h | h <;> omega
theorem can_lt {m : Nat} {i : Int} (h : Can m i) : m < 9007199254740992 := by
  rcases h with h | h <;> omega
theorem k_le {m k : Nat} (h0 : 0 < m) (h : m * 2 ^ k < 9007199254740992) : k ≤ 52 := by
  rcases Nat.lt_or_ge k 53 with h1 | h1
  · omega
  · have h2 : 2 ^ 53 ≤ 2 ^ k := Nat.pow_le_pow_right (by omega) h1
    have h3 : 1 * 2 ^ k ≤ m * 2 ^ k := Nat.mul_le_mul_right _ h0
    rw [pw53] at h2
    omega
theorem retD {s : Bool} {m : Nat} {i : Int} (k m' : Nat) (E : Int) (hm : m' = m * 2 ^ k) (h1 : 4503599627370496 ≤ m') (h2 : m' < 9007199254740992) (hE : E = i - k) : RetD s m i (.returned (.tuple #[.bool s, .int .u64 (m' : Int), .int .i64 E])) := by
  subst hm hE
  exact ⟨k, h1, h2, rfl⟩
set_option maxHeartbeats 1000000 in
theorem decomp_pos (x m : Nat) (i : Int) (s : Bool) (w : World) (h0 : 0 < m) (hx : double.read x = .number s m i) (hlt : x < 18446744073709551616) :
    Calls Try.prog 5 #[.float .f64 x] w fun e w' => RetD s m i e ∧ w' = w := by
  have hcan := read_can hx
  have hneg : ∀ (b : Nat) (w : World), (Op.unary .neg (.float .f64 b)).run Try.prog w = .ok (.float .f64 (Op.negFloat .f64 b)) w := fun _ _ => rfl
  have hi1 : -1074 ≤ i := by rcases hcan with h | h <;> omega
  have hi2 : i ≤ 971 := by rcases hcan with h | h <;> omega
  cases s with
  | false =>
    have ho : FloatKind.f64.format.order x 0 = some .gt := ord_pos h0 hx
    have HX := hid hx
    have HC := hid hcan
    clear hx hcan
    go_enter Try.func5, Try.ntmps5
    go_wp2
    go_loop [0, 6] (fun xv ev => ∃ (y c : Nat), xv = .float .f64 y ∧ ev = .int .i64 c ∧ Hid (double.read y = .number false m (i - c)) ∧ (c = 0 ∨ (c : Int) ≤ i)) (fun _ ev => i.toNat - (intOf ev).toNat)
    case atStart => exact ⟨_, 0, rfl, rfl, hid (by simpa using HX.out), .inl rfl⟩
    case round =>
      obtain ⟨y, c, rfl, rfl, hy, hc⟩ := hrel
      by_cases hbig : 1 ≤ i - c
      · have hmn := can_normal HC.out (by omega)
        obtain ⟨y', hm', hy'⟩ := halve hmn.1 hmn.2 hbig (by omega) hy.out
        have hmul := fun w => run_float_arith (P := Try.prog) w .mul 22 .f64 y _ y' hm'
        have HY' := hid hy'
        have HB : Hid (FloatKind.f64.format.order y 4845873199050653696 = some .gt ∨ FloatKind.f64.format.order y 4845873199050653696 = some .eq) := ord_big hmn.1 hbig hy.out
        have hcb : (c : Int) ≤ 971 := by omega
        have HCC : Hid ((c : Int) + 1 ≤ i) := hid (by omega)
        clear hm' hy' hmn hbig hc
        rcases HB.out with ho2 | ho2
        all_goals
          go_wp2
          go_round
          case rel => exact ⟨y', c + 1, rfl, by go_num, hid (by rw [HY'.out]; congr 1; omega), .inr (by have := HCC.out; omega)⟩
          case measure => have := HCC.out; simp [intOf]; omega
      · have hm2 := can_lt HC.out
        have ho2 : FloatKind.f64.format.order y 4845873199050653696 = some .lt := ord_notbig hm2 (by omega) hy.out
        have hcb : (c : Int) ≤ 971 := by rcases hc with h | h <;> omega
        have HI : Hid (i - c ≤ 0) := hid (by omega)
        clear hbig hc hm2
        go_wp2
        go_loop [0, 6] (fun xv ev => ∃ (y m' k : Nat) (i' E : Int), xv = .float .f64 y ∧ ev = .int .i64 E ∧ Hid (double.read y = .number false m' i') ∧ Hid (m' = m * 2 ^ k) ∧ Hid (i' ≤ 0) ∧ Hid (E + i' = i - k) ∧ -1200 < E ∧ E ≤ 971) (fun _ ev => (intOf ev + 1200).toNat)
        case atStart => exact ⟨y, m, 0, i - c, c, rfl, rfl, hy, hid (by simp), HI, hid (by omega), by omega, hcb⟩
        case round =>
          obtain ⟨z, m', k, i', E, rfl, rfl, hz, hmk, hi', hE, hE1, hE2⟩ := hrel
          have HC' := hid (read_can hz.out)
          have hm0 : 0 < m' := by rw [hmk.out]; exact Nat.mul_pos h0 (Nat.two_pow_pos k)
          by_cases hs : i' < 0
          · have ho3 : FloatKind.f64.format.order z 4841369599423283200 = some .lt := ord_small (can_lt HC'.out) hs hz.out
            have HK : Hid (k ≤ 52) := hid (k_le h0 (by rw [← hmk.out]; exact can_lt HC'.out))
            have HEB : Hid (-1126 < E) := hid (by have := hE.out; have := HK.out; omega)
            have HS := hid hs
            clear hs
            rcases HC'.out with ⟨g1, g2⟩ | ⟨g1, g2, g3, g4⟩
            · obtain ⟨z', hm', hz'⟩ := twice_sub hm0 g1 (by rw [← g2]; exact hz.out)
              have hmul := fun w => run_float_arith (P := Try.prog) w .mul 22 .f64 z _ z' hm'
              have HZ' := hid hz'
              have G2 := hid g2
              clear hm' hz' g1 g2
              go_wp2
              go_round
              case rel => exact ⟨z', 2 * m', k + 1, -1074, E - 1, rfl, rfl, HZ', hid (by rw [hmk.out, Nat.pow_succ, Nat.mul_comm 2, Nat.mul_assoc]), hid (by omega), hid (by have := hE.out; have := G2.out; omega), by have := HEB.out; omega, by omega⟩
              case measure => simp [intOf]; omega
            · obtain ⟨z', hm', hz'⟩ := twice g1 g2 HS.out g3 hz.out
              have hmul := fun w => run_float_arith (P := Try.prog) w .mul 22 .f64 z _ z' hm'
              have HZ' := hid hz'
              clear hm' hz' g1 g2 g3 g4
              go_wp2
              go_round
              case rel => exact ⟨z', m', k, i' + 1, E - 1, rfl, rfl, HZ', hmk, hid (by have := HS.out; omega), hid (by have := hE.out; omega), by have := HEB.out; omega, by omega⟩
              case measure => simp [intOf]; omega
          · have e0 : i' = 0 := by have := hi'.out; omega
            subst e0
            have hmn := can_normal HC'.out (by omega)
            have HB : Hid (FloatKind.f64.format.order z 4841369599423283200 = some .gt ∨ FloatKind.f64.format.order z 4841369599423283200 = some .eq) := ord_notsmall hmn.1 hz.out
            have hcv := fun w => run_convert_float_int (P := Try.prog) w 22 25 .f64 .u64 z (m' : Int) (by rw [Try.underlying22]; rfl) Try.underlying25 (toInt_of hmn.2 hz.out)
            have HMN := hid hmn
            clear hs hmn
            rcases HB.out with ho3 | ho3
            all_goals
              go_wp2
              go_ret3
              exact ⟨retD k m' E hmk.out HMN.out.1 HMN.out.2 (by have := hE.out; omega), rfl⟩
  | true =>
    have ho : FloatKind.f64.format.order x 0 = some .lt := ord_neg h0 hx
    have HX : Hid (double.read (Op.negFloat .f64 x) = .number false m i) := by rw [neg_read x hlt, hx]; rfl
    have HC := hid hcan
    clear hx hcan
    go_enter Try.func5, Try.ntmps5
    go_wp2
    generalize Op.negFloat .f64 x = y0 at *
    go_loop [0, 6] (fun xv ev => ∃ (y c : Nat), xv = .float .f64 y ∧ ev = .int .i64 c ∧ Hid (double.read y = .number false m (i - c)) ∧ (c = 0 ∨ (c : Int) ≤ i)) (fun _ ev => i.toNat - (intOf ev).toNat)
    case atStart => exact ⟨_, 0, rfl, rfl, hid (by simpa using HX.out), .inl rfl⟩
    case round =>
      obtain ⟨y, c, rfl, rfl, hy, hc⟩ := hrel
      by_cases hbig : 1 ≤ i - c
      · have hmn := can_normal HC.out (by omega)
        obtain ⟨y', hm', hy'⟩ := halve hmn.1 hmn.2 hbig (by omega) hy.out
        have hmul := fun w => run_float_arith (P := Try.prog) w .mul 22 .f64 y _ y' hm'
        have HY' := hid hy'
        have HB : Hid (FloatKind.f64.format.order y 4845873199050653696 = some .gt ∨ FloatKind.f64.format.order y 4845873199050653696 = some .eq) := ord_big hmn.1 hbig hy.out
        have hcb : (c : Int) ≤ 971 := by omega
        have HCC : Hid ((c : Int) + 1 ≤ i) := hid (by omega)
        clear hm' hy' hmn hbig hc
        rcases HB.out with ho2 | ho2
        all_goals
          go_wp2
          go_round
          case rel => exact ⟨y', c + 1, rfl, by go_num, hid (by rw [HY'.out]; congr 1; omega), .inr (by have := HCC.out; omega)⟩
          case measure => have := HCC.out; simp [intOf]; omega
      · have hm2 := can_lt HC.out
        have ho2 : FloatKind.f64.format.order y 4845873199050653696 = some .lt := ord_notbig hm2 (by omega) hy.out
        have hcb : (c : Int) ≤ 971 := by rcases hc with h | h <;> omega
        have HI : Hid (i - c ≤ 0) := hid (by omega)
        clear hbig hc hm2
        go_wp2
        go_loop [0, 6] (fun xv ev => ∃ (y m' k : Nat) (i' E : Int), xv = .float .f64 y ∧ ev = .int .i64 E ∧ Hid (double.read y = .number false m' i') ∧ Hid (m' = m * 2 ^ k) ∧ Hid (i' ≤ 0) ∧ Hid (E + i' = i - k) ∧ -1200 < E ∧ E ≤ 971) (fun _ ev => (intOf ev + 1200).toNat)
        case atStart => exact ⟨y, m, 0, i - c, c, rfl, rfl, hy, hid (by simp), HI, hid (by omega), by omega, hcb⟩
        case round =>
          obtain ⟨z, m', k, i', E, rfl, rfl, hz, hmk, hi', hE, hE1, hE2⟩ := hrel
          have HC' := hid (read_can hz.out)
          have hm0 : 0 < m' := by rw [hmk.out]; exact Nat.mul_pos h0 (Nat.two_pow_pos k)
          by_cases hs : i' < 0
          · have ho3 : FloatKind.f64.format.order z 4841369599423283200 = some .lt := ord_small (can_lt HC'.out) hs hz.out
            have HK : Hid (k ≤ 52) := hid (k_le h0 (by rw [← hmk.out]; exact can_lt HC'.out))
            have HEB : Hid (-1126 < E) := hid (by have := hE.out; have := HK.out; omega)
            have HS := hid hs
            clear hs
            rcases HC'.out with ⟨g1, g2⟩ | ⟨g1, g2, g3, g4⟩
            · obtain ⟨z', hm', hz'⟩ := twice_sub hm0 g1 (by rw [← g2]; exact hz.out)
              have hmul := fun w => run_float_arith (P := Try.prog) w .mul 22 .f64 z _ z' hm'
              have HZ' := hid hz'
              have G2 := hid g2
              clear hm' hz' g1 g2
              go_wp2
              go_round
              case rel => exact ⟨z', 2 * m', k + 1, -1074, E - 1, rfl, rfl, HZ', hid (by rw [hmk.out, Nat.pow_succ, Nat.mul_comm 2, Nat.mul_assoc]), hid (by omega), hid (by have := hE.out; have := G2.out; omega), by have := HEB.out; omega, by omega⟩
              case measure => simp [intOf]; omega
            · obtain ⟨z', hm', hz'⟩ := twice g1 g2 HS.out g3 hz.out
              have hmul := fun w => run_float_arith (P := Try.prog) w .mul 22 .f64 z _ z' hm'
              have HZ' := hid hz'
              clear hm' hz' g1 g2 g3 g4
              go_wp2
              go_round
              case rel => exact ⟨z', m', k, i' + 1, E - 1, rfl, rfl, HZ', hmk, hid (by have := HS.out; omega), hid (by have := hE.out; omega), by have := HEB.out; omega, by omega⟩
              case measure => simp [intOf]; omega
          · have e0 : i' = 0 := by have := hi'.out; omega
            subst e0
            have hmn := can_normal HC'.out (by omega)
            have HB : Hid (FloatKind.f64.format.order z 4841369599423283200 = some .gt ∨ FloatKind.f64.format.order z 4841369599423283200 = some .eq) := ord_notsmall hmn.1 hz.out
            have hcv := fun w => run_convert_float_int (P := Try.prog) w 22 25 .f64 .u64 z (m' : Int) (by rw [Try.underlying22]; rfl) Try.underlying25 (toInt_of hmn.2 hz.out)
            have HMN := hid hmn
            clear hs hmn
            rcases HB.out with ho3 | ho3
            all_goals
              go_wp2
              go_ret3
              exact ⟨retD k m' E hmk.out HMN.out.1 HMN.out.2 (by have := hE.out; omega), rfl⟩
end Go.Proofs.Qxb6604568a
