import Derived.Test.Qxb6604568aW3
namespace Go.Proofs.Qxb6604568a
open Go.RowKit
open Ieee (double Datum)
theorem add_run {x y r : Nat} (h : double.add x y = some r) (w : World) : (binOp .add 22 (.float .f64 x) (.float .f64 y)).run Try.prog w = .ok (.float .f64 r) w :=
  run_float_arith (P := Try.prog) w .add 22 .f64 x y r h
theorem decomp_hi (x m : Nat) (i : Int) (s : Bool) (w : World) (h1 : 4503599627370496 ≤ m) (h2 : m < 9007199254740992) (hx : double.read x = .number s m i) (hlt : x < 18446744073709551616) :
    Calls Try.prog 5 #[.float .f64 x] w fun e w' => e = .returned (.tuple #[.bool s, .int .u64 m, .int .i64 i]) ∧ w' = w := by
  refine (decomp_pos x m i s w (by omega) hx hlt).mono ?_
  rintro e w' ⟨⟨k, g1, g2, rfl⟩, rfl⟩
  have hk : k = 0 := by
    rcases Nat.eq_zero_or_pos k with h | h
    · exact h
    · have h3 : 2 ≤ 2 ^ k := two_le_pow h
      have h4 : m * 2 ≤ m * 2 ^ k := Nat.mul_le_mul_left _ h3
      omega
  subst hk
  refine ⟨?_, rfl⟩
  rw [Nat.pow_zero, Nat.mul_one, show i - ((0 : Nat) : Int) = i by omega]
/-- What zzDecomp answers of the rest. -/
def RetL (s : Bool) (r : Nat) (e0 : Int) (e : Ending) : Prop := ∃ M y : Nat, M = r * 2 ^ y ∧ M < 9007199254740992 ∧ y ≤ 52 ∧ e = .returned (.tuple #[.bool s, .int .u64 M, .int .i64 (e0 - y)])
theorem decomp_lo (x r z : Nat) (e0 : Int) (s : Bool) (w : World) (h0 : 0 < r) (hx : double.read x = .number s (r * 2 ^ z) (e0 - z)) (hlt : x < 18446744073709551616) :
    Calls Try.prog 5 #[.float .f64 x] w fun e w' => RetL s r e0 e ∧ w' = w := by
  refine (decomp_pos x (r * 2 ^ z) (e0 - z) s w (Nat.mul_pos h0 (Nat.two_pow_pos z)) hx hlt).mono ?_
  rintro e w' ⟨⟨k, g1, g2, rfl⟩, rfl⟩
  have hM : r * 2 ^ z * 2 ^ k = r * 2 ^ (z + k) := by rw [Nat.mul_assoc, ← Nat.pow_add]
  rw [hM] at g2
  refine ⟨⟨r * 2 ^ (z + k), z + k, rfl, g2, k_le h0 g2, ?_⟩, rfl⟩
  rw [hM, show e0 - (z : Int) - (k : Int) = e0 - ((z + k : Nat) : Int) by omega]
theorem words_eq {a b c d : Nat} (h : a * 18446744073709551616 + b = c * 18446744073709551616 + d) (h1 : b < 18446744073709551616) (h2 : d < 18446744073709551616) : a = c ∧ b = d := by omega
theorem ret_bool {a b : Bool} (h : a = b) : Ending.returned (.bool a) = .returned (.bool b) := by rw [h]
theorem ord_bne {x : Nat} {s : Bool} {m : Nat} {i : Int} (h0 : 0 < m) (h : double.read x = .number s m i) : (FloatKind.f64.format.order x 0 != some Ordering.eq) = true := by
  show (double.order x 0 != some Ordering.eq) = true
  cases s
  · rw [ord_pos h0 h]; rfl
  · rw [ord_neg h0 h]; rfl
theorem hh_bounds {mh u hh hl : Nat} (m1 : 4503599627370496 ≤ mh) (m2 : mh < 9007199254740992) (u1 : 52 ≤ u) (u2 : u ≤ 54) (h : hh * 18446744073709551616 + hl = mh * 2 ^ u) (hl' : hl < 18446744073709551616) : 0 < hh ∧ hh < 9223372036854775808 := by
  have g1 : 2 ^ 52 ≤ 2 ^ u := Nat.pow_le_pow_right (by omega) u1
  have g2 : 2 ^ u ≤ 2 ^ 54 := Nat.pow_le_pow_right (by omega) u2
  rw [pw52] at g1
  rw [pw54] at g2
  have g3 := Nat.mul_le_mul m1 g1
  have g4 := Nat.mul_le_mul (Nat.le_of_lt m2) g2
  omega
theorem add_zero' (ah al : Nat) (h1 : ah < 9223372036854775808) (h2 : al < 18446744073709551616) (w : World) :
    Calls Try.prog 8 #[.int .u64 ah, .int .u64 al, .int .u64 0, .int .u64 0] w fun e w' => RetW (ah * 18446744073709551616 + al) e ∧ w' = w := by
  have h := add_any ah al 0 h1 h2 (by omega) w
  rw [Nat.add_zero] at h
  exact h
set_option maxRecDepth 100000 in
set_option maxHeartbeats 1000000 in
theorem walk_num (a b : Nat) (w : World) (s t : Bool) (m n : Nat) (i j : Int) (hla : a < 18446744073709551616) (hlb : b < 18446744073709551616) (ha : double.read a = .number s m i) (hb : double.read b = .number t n j) (hm : 0 < m) (hn : 0 < n) :
    Calls Try.prog 3 #[.float .f64 a, .float .f64 b] w fun e w' => e = .returned (.bool true) ∧ Below w.heap.size w w' := by
  have oa : FloatKind.f64.format.order a a = some .eq := ord_self ha
  have ob : FloatKind.f64.format.order b b = some .eq := ord_self hb
  have sa := fun w => run_sub_num ha w
  have sb := fun w => run_sub_num hb w
  have o00 := ord00
  have oa0 : (FloatKind.f64.format.order a 0 == some Ordering.eq) = false := ord_ne hm ha
  have ob0 : (FloatKind.f64.format.order b 0 == some Ordering.eq) = false := ord_ne hn hb
  have hmul := mul_num ha hb
  obtain ⟨hi, hhi⟩ : ∃ hi, hi = double.nearest (s ^^ t) (m * n) (i + j) := ⟨_, rfl⟩
  rw [← hhi] at hmul
  have hcls : (∃ n' q, double.read hi = .number (s ^^ t) n' q) ∨ double.read hi = .infinity (s ^^ t) := by rw [hhi]; exact nearest_fin _ _ _
  have hlh : hi < 18446744073709551616 := writes_lt hmul
  obtain ⟨lo, hfma⟩ := fma_some ha hb (y := Op.negFloat .f64 hi) (by
    rw [neg_read hi hlh]
    rcases hcls with ⟨n', q, h⟩ | h
    · rw [h]; exact .inl ⟨_, _, _, rfl⟩
    · rw [h]; exact .inr ⟨_, rfl⟩)
  have hll : lo < 18446744073709551616 := fma_lt hfma
  have hmulr := fun w => run_float_arith (P := Try.prog) w .mul 22 .f64 a b hi hmul
  have HM := hid hmul
  have HF := hid hfma
  have HA := hid ha
  have HB := hid hb
  have HHI := hid hhi
  have HLH := hid hlh
  have HLL := hid hll
  have HLA := hid hla
  have HLB := hid hlb
  have HCA := hid (read_can ha)
  have HCB := hid (read_can hb)
  clear hmul hfma ha hb hhi hlh hll hla hlb
  rcases hcls with ⟨n', q, hrh⟩ | hrh
  · -- hi is finite
    have oh : FloatKind.f64.format.order hi hi = some .eq := ord_self hrh
    have sh := fun w => run_sub_num hrh w
    have HRH := hid hrh
    clear hrh
    go_enter Try.func3, Try.ntmps3
    go_wp2_with fail
    refine (zz_any a b hi lo _ HM.out HF.out).mono ?_
    rintro e w1 ⟨rfl, hbl⟩
    have HBL := hid hbl
    clear hbl
    go_wp2_with fail
    refine (decomp_pos a m i s _ hm HA.out HLA.out).mono ?_
    rintro e w2 ⟨⟨k, hk1, hk2, rfl⟩, rfl⟩
    have kb : k ≤ 52 := k_le hm hk2
    obtain ⟨Ma, hMa⟩ : ∃ Ma, Ma = m * 2 ^ k := ⟨_, rfl⟩
    rw [← hMa] at hk1 hk2 ⊢
    have HMa := hid hMa
    clear hMa
    go_wp2_with fail
    refine (decomp_pos b n j t _ hn HB.out HLB.out).mono ?_
    rintro e w3 ⟨⟨l, hl1, hl2, rfl⟩, rfl⟩
    have lb : l ≤ 52 := k_le hn hl2
    obtain ⟨Mb, hMb⟩ : ∃ Mb, Mb = n * 2 ^ l := ⟨_, rfl⟩
    rw [← hMb] at hl1 hl2 ⊢
    have HMb := hid hMb
    clear hMb
    have ib : -1074 ≤ i ∧ i ≤ 971 := by rcases HCA.out with h | h <;> omega
    have jb : -1074 ≤ j ∧ j ≤ 971 := by rcases HCB.out with h | h <;> omega
    obtain ⟨ib1, ib2⟩ := ib
    obtain ⟨jb1, jb2⟩ := jb
    obtain ⟨e, he⟩ : ∃ e : Int, e = (i - k) + (j - l) := ⟨_, rfl⟩
    by_cases hge : -1074 ≤ e
    · obtain ⟨mh, u, lo', hf', hrh, m1, m2, u1, u2, hadd, hcase⟩ := main_law HA.out HB.out k l (by rw [← HMa.out]; exact hk1) (by rw [← HMa.out]; exact hk2) (by rw [← HMb.out]; exact hl1) (by rw [← HMb.out]; exact hl2) e he hge HHI.out (fun g h => by rw [HRH.out] at h; cases h) (neg_read hi HLH.out)
      obtain rfl : lo' = lo := by have := HF.out; rw [hf'] at this; injection this
      rw [← HMa.out, ← HMb.out] at hcase
      have HE : i - k + (j - l) = e := he.symm
      have HRH2 := hid hrh
      have HCASE := hid hcase
      have oh0 : (FloatKind.f64.format.order hi 0 == some Ordering.eq) = false := ord_ne (by omega) hrh
      have hsum := fun w => add_run hadd w
      have hlnum : ∃ g n q, double.read lo' = .number g n q := by
        rcases hcase with ⟨_, h⟩ | ⟨r, z, _, _, _, _, ⟨_, h⟩ | ⟨_, h⟩⟩ <;> exact ⟨_, _, _, h⟩
      obtain ⟨g, nn, qq, hlnum⟩ := hlnum
      have ol : FloatKind.f64.format.order lo' lo' = some .eq := ord_self hlnum
      have sl := fun w => run_sub_num hlnum w
      have heb : e ≤ 1942 := by omega
      clear he hf' hrh hadd hcase hlnum
      go_wp2_with fail
      clear HE
      refine (mul_ret Ma Mb (by omega) (by omega) _).mono ?_
      rintro e1 w4 ⟨⟨ph, pl, hp, hpl, rfl⟩, rfl⟩
      have HP := hid hp
      clear hp
      obtain ⟨st, hst⟩ : ∃ st, st = (s ^^ t) := ⟨_, rfl⟩
      rw [← hst] at HRH2 HCASE
      have HST := hid hst
      clear hst
      go_wp2_with fail
      refine (decomp_hi hi mh (e + u) st _ m1 m2 HRH2.out HLH.out).mono ?_
      rintro e1 w5 ⟨rfl, rfl⟩
      go_wp2_with fail
      rw [show e + (u : Int) - e = (u : Int) by omega]
      refine (scale_hi mh u u1 u2 _).mono ?_
      rintro e1 w6 ⟨⟨hh, hl, hH, hhl, rfl⟩, rfl⟩
      obtain ⟨hb1, hb2⟩ := hh_bounds m1 m2 u1 u2 hH hhl
      have HH := hid hH
      clear hH
      have hss : (st == st) = true := by cases st <;> rfl
      rcases HCASE.out with ⟨hX, hrl⟩ | ⟨r, z, hr0, hr1, hz, hcz, ⟨hX, hrl⟩ | ⟨hX, hrl⟩⟩
      · have ol0 : FloatKind.f64.format.order lo' 0 = some .eq := ord_zero hrl
        have HXX := hid hX
        clear hX hrl HCASE
        go_wp2_with fail
        refine (add_zero' hh hl hb2 hhl _).mono ?_
        rintro e1 w7 ⟨⟨sh', sl', hS, hsl, rfl⟩, rfl⟩
        obtain ⟨rfl, rfl⟩ := words_eq (hS.trans (HH.out.trans (HXX.out.symm.trans HP.out.symm))) hsl hpl
        clear hS
        go_wp2
        go_ret
        exact ⟨ret_bool (by rw [HST.out]; cases s <;> cases t <;> rfl), HBL.out⟩
      · have ol0 : (FloatKind.f64.format.order lo' 0 != some Ordering.eq) = true := ord_bne (Nat.mul_pos hr0 (Nat.two_pow_pos z)) hrl
        have HRL := hid hrl
        have HXX := hid hX
        clear hX hrl HCASE hcz hz
        go_wp2_with fail
        refine (decomp_lo lo' r z e st _ hr0 HRL.out HLL.out).mono ?_
        rintro e1 w7 ⟨⟨M, y, hM, hM2, hy, rfl⟩, rfl⟩
        have HMM := hid hM
        clear hM
        go_wp2_with fail
        rw [show e - (y : Int) - e = -(y : Int) by omega]
        refine (scale_lo M r y HMM.out hM2 hy _).mono ?_
        rintro e1 w8 ⟨rfl, rfl⟩
        go_wp2_with fail
        refine (add_any hh hl r hb2 hhl (by omega) _).mono ?_
        rintro e1 w9 ⟨⟨sh', sl', hS, hsl, rfl⟩, rfl⟩
        obtain ⟨rfl, rfl⟩ := words_eq (hS.trans (by rw [HH.out, ← HXX.out]; exact HP.out.symm)) hsl hpl
        clear hS
        go_wp2
        go_ret
        exact ⟨ret_bool (by rw [HST.out]; cases s <;> cases t <;> rfl), HBL.out⟩
      · have ol0 : (FloatKind.f64.format.order lo' 0 != some Ordering.eq) = true := ord_bne (Nat.mul_pos hr0 (Nat.two_pow_pos z)) hrl
        have hsn : (st == !st) = false := by cases st <;> rfl
        have HRL := hid hrl
        have HXX := hid hX
        clear hX hrl HCASE hcz hz
        go_wp2_with fail
        refine (decomp_lo lo' r z e (!st) _ hr0 HRL.out HLL.out).mono ?_
        rintro e1 w7 ⟨⟨M, y, hM, hM2, hy, rfl⟩, rfl⟩
        have HMM := hid hM
        clear hM
        go_wp2_with fail
        rw [show e - (y : Int) - e = -(y : Int) by omega]
        refine (scale_lo M r y HMM.out hM2 hy _).mono ?_
        rintro e1 w8 ⟨rfl, rfl⟩
        go_wp2_with fail
        refine (less_any hh hl r hb1 _).mono ?_
        rintro e1 w9 ⟨rfl, rfl⟩
        go_wp2_with fail
        refine (sub_any hh hl r hb1 hb2 hhl (by omega) (Ma * Mb) (by rw [HH.out]; exact HXX.out) _).mono ?_
        rintro e1 w9 ⟨⟨sh', sl', hS, hsl, rfl⟩, rfl⟩
        obtain ⟨rfl, rfl⟩ := words_eq (hS.trans HP.out.symm) hsl hpl
        clear hS
        go_wp2
        go_ret
        exact ⟨ret_bool (by rw [HST.out]; cases s <;> cases t <;> rfl), HBL.out⟩
    · have hlt : i - k + (j - l) < -1074 := by omega
      clear he hge
      go_wp2
      go_ret
      exact ⟨rfl, HBL.out⟩
  · -- hi is an infinity
    have HRH := hid hrh
    clear hrh
    go_enter Try.func3, Try.ntmps3
    go_wp2_with fail
    refine (zz_any a b hi lo _ HM.out HF.out).mono ?_
    rintro e w1 ⟨rfl, hbl⟩
    have HBL := hid hbl
    obtain ⟨q, hq, oq⟩ := run_sub_inf HRH.out w1
    clear hbl
    go_wp2
    go_ret
    exact ⟨rfl, HBL.out.drew⟩
end Go.Proofs.Qxb6604568a
