import Derived.Test.Qxb6604568aW2
namespace Go.Proofs.Qxb6604568a
open Go.RowKit
open Ieee (double Datum)
theorem ord_nan {x y : Nat} {s : Bool} {f : Nat} (h : double.read x = .nan s f) : FloatKind.f64.format.order x y = none := by
  show double.order x y = none
  unfold Ieee.Format.order
  rw [h]
  rfl
theorem ord_inf {x : Nat} {s : Bool} (h : double.read x = .infinity s) : FloatKind.f64.format.order x x = some .eq := by
  show double.order x x = _
  unfold Ieee.Format.order
  rw [h]
  cases s <;> rfl
theorem sub_inf {x : Nat} {s : Bool} (h : double.read x = .infinity s) : double.sub x x = none := by
  unfold Ieee.Format.sub
  rw [h]
  cases s <;> rfl
/-- An infinity less itself: a NaN, of which the world says which. -/
theorem run_sub_inf {x : Nat} {s : Bool} (h : double.read x = .infinity s) (w : World) : ∃ q, (binOp .sub 22 (.float .f64 x) (.float .f64 x)).run Try.prog w = .ok (.float .f64 q) w.drew ∧ FloatKind.f64.format.order q 0 = none := by
  have hs : FloatKind.f64.format.sub x x = none := sub_inf h
  refine ⟨Question.cut (.nanBits .f64 x x) (w.tape w.drawn (.nanBits .f64 x x)), ?_, ?_⟩
  · simp [binOp, Op.floatArith, hs, Question.forced]
  · generalize w.tape w.drawn (.nanBits .f64 x x) = t
    have e : Question.cut (.nanBits .f64 x x) t = double.word (t % 2 == 1) (9218868437227405312 + 1 + (t / 2) % 4503599627370495) := by
      unfold Question.cut Ieee.Format.word
      rw [dS]
      rcases Nat.mod_two_eq_zero_or_one t with h0 | h0
      · simp [h0]
      · simp [h0]
        omega
    have hr := read_word (t % 2 == 1) (9218868437227405312 + 1 + (t / 2) % 4503599627370495) (by omega)
    rw [if_neg (by omega), if_neg (by omega), if_neg (by omega)] at hr
    exact ord_nan (x := Question.cut (.nanBits .f64 x x) t) (by rw [e]; exact hr)
theorem run_sub_num {x : Nat} {s : Bool} {m : Nat} {i : Int} (h : double.read x = .number s m i) (w : World) : (binOp .sub 22 (.float .f64 x) (.float .f64 x)).run Try.prog w = .ok (.float .f64 0) w :=
  run_float_arith (P := Try.prog) w .sub 22 .f64 x x 0 (sub_self h)
theorem ord00 : FloatKind.f64.format.order 0 0 = some .eq := ord_zero r0
theorem ord_ne {x : Nat} {s : Bool} {m : Nat} {i : Int} (h0 : 0 < m) (h : double.read x = .number s m i) : (FloatKind.f64.format.order x 0 == some Ordering.eq) = false := by
  show (double.order x 0 == some Ordering.eq) = false
  cases s
  · rw [ord_pos h0 h]; rfl
  · rw [ord_neg h0 h]; rfl
/-- What is written is no NaN. -/
theorem nearest_fin (neg : Bool) (m : Nat) (p : Int) : (∃ n q, double.read (double.nearest neg m p) = .number neg n q) ∨ double.read (double.nearest neg m p) = .infinity neg := by
  rcases Nat.eq_zero_or_pos m with rfl | h
  · exact .inl ⟨_, _, nearest_zero neg p⟩
  · unfold Ieee.Format.nearest
    rw [if_neg (by omega)]
    simp only [dI]
    have key : ∀ r, r ≤ 9218868437227405312 → (∃ n q, double.read (double.word neg r) = .number neg n q) ∨ double.read (double.word neg r) = .infinity neg := by
      intro r hle
      rw [read_word neg r (by omega)]
      split
      · exact .inl ⟨_, _, rfl⟩
      · split
        · exact .inl ⟨_, _, rfl⟩
        · rw [if_pos (by omega)]; exact .inr rfl
    exact key _ (Nat.min_le_right _ _)
theorem fma_some {a b y : Nat} {s t : Bool} {m n : Nat} {i j : Int} (ha : double.read a = .number s m i) (hb : double.read b = .number t n j) (hy : (∃ g n q, double.read y = .number g n q) ∨ ∃ g, double.read y = .infinity g) : ∃ lo, double.fma a b y = some lo := by
  unfold Ieee.Format.fma
  rw [ha, hb]
  rcases hy with ⟨g, n', q, hy⟩ | ⟨g, hy⟩
  · rw [hy]; exact ⟨_, rfl⟩
  · rw [hy]; exact ⟨_, rfl⟩
theorem fma_zero {a b y lo : Nat} {s t g : Bool} {m n : Nat} {i j q : Int} (ha : double.read a = .number s m i) (hb : double.read b = .number t n j) (hz : m * n = 0) (hy : double.read y = .number g 0 q) (h : double.fma a b y = some lo) : ∃ g' q', double.read lo = .number g' 0 q' := by
  unfold Ieee.Format.fma at h
  rw [ha, hb, hy] at h
  simp only [Datum.product, hz, Option.bind_some, Datum.sum, Option.map_some, Option.some.injEq] at h
  have e : Ieee.signed (s ^^ t) 0 (i + j - min (i + j) q).toNat + Ieee.signed g 0 (q - min (i + j) q).toNat = 0 := by
    rw [signed_eq, signed_eq]
    cases (s ^^ t) <;> cases g <;> simp
  rw [e] at h
  subst h
  exact ⟨_, _, nearest_zero _ _⟩
theorem writes_lt {x y r : Nat} (h : double.mul x y = some r) : r < 18446744073709551616 := by
  exact double.mul_lt h
theorem fma_lt {x y z r : Nat} (h : double.fma x y z = some r) : r < 18446744073709551616 := by
  exact double.fma_lt h
set_option maxRecDepth 100000 in
set_option maxHeartbeats 1000000 in
theorem walk_nan (a b : Nat) (w : World) (h : (∃ s f, double.read a = .nan s f) ∨ ((∃ s, double.read a = .infinity s) ∨ ∃ s m i, double.read a = .number s m i) ∧ ∃ s f, double.read b = .nan s f) :
    Calls Try.prog 3 #[.float .f64 a, .float .f64 b] w fun e w' => e = .returned (.bool true) ∧ Below w.heap.size w w' := by
  rcases h with ⟨s, f, h⟩ | ⟨h, s, f, hb⟩
  · have oa : FloatKind.f64.format.order a a = none := ord_nan h
    clear h
    go_enter Try.func3, Try.ntmps3
    go_wp2
    go_ret
    exact ⟨rfl, Below.refl _ _⟩
  · have oa : FloatKind.f64.format.order a a = some .eq := by
      rcases h with ⟨s, h⟩ | ⟨s, m, i, h⟩
      · exact ord_inf h
      · exact ord_self h
    have ob : FloatKind.f64.format.order b b = none := ord_nan hb
    clear h hb
    go_enter Try.func3, Try.ntmps3
    go_wp2
    go_ret
    exact ⟨rfl, Below.refl _ _⟩
set_option maxRecDepth 100000 in
set_option maxHeartbeats 1000000 in
theorem walk_inf (a b : Nat) (w : World) (h : (∃ s, double.read a = .infinity s) ∧ ((∃ s, double.read b = .infinity s) ∨ ∃ s m i, double.read b = .number s m i) ∨ (∃ s m i, double.read a = .number s m i) ∧ ∃ s, double.read b = .infinity s) :
    Calls Try.prog 3 #[.float .f64 a, .float .f64 b] w fun e w' => e = .returned (.bool true) ∧ Below w.heap.size w w' := by
  have ob : FloatKind.f64.format.order b b = some .eq := by
    rcases h with ⟨_, ⟨s, h⟩ | ⟨s, m, i, h⟩⟩ | ⟨_, s, h⟩
    · exact ord_inf h
    · exact ord_self h
    · exact ord_inf h
  rcases h with ⟨⟨s, h⟩, _⟩ | ⟨⟨s, m, i, h⟩, t, hb⟩
  · have oa : FloatKind.f64.format.order a a = some .eq := ord_inf h
    obtain ⟨q, hq, oq⟩ := run_sub_inf h w
    clear h
    go_enter Try.func3, Try.ntmps3
    go_wp2
    go_ret
    exact ⟨rfl, (Below.refl _ _).drew⟩
  · have oa : FloatKind.f64.format.order a a = some .eq := ord_self h
    have sa := fun w => run_sub_num h w
    obtain ⟨q, hq, oq⟩ := run_sub_inf hb w
    have o00 := ord00
    clear h hb
    go_enter Try.func3, Try.ntmps3
    go_wp2
    go_ret
    exact ⟨rfl, (Below.refl _ _).drew⟩
set_option maxRecDepth 100000 in
set_option maxHeartbeats 1000000 in
theorem walk_zero (a b : Nat) (w : World) (s t : Bool) (m n : Nat) (i j : Int) (ha : double.read a = .number s m i) (hb : double.read b = .number t n j) (hz : m = 0 ∨ (0 < m ∧ n = 0)) :
    Calls Try.prog 3 #[.float .f64 a, .float .f64 b] w fun e w' => e = .returned (.bool true) ∧ Below w.heap.size w w' := by
  have oa : FloatKind.f64.format.order a a = some .eq := ord_self ha
  have ob : FloatKind.f64.format.order b b = some .eq := ord_self hb
  have sa := fun w => run_sub_num ha w
  have sb := fun w => run_sub_num hb w
  have o00 := ord00
  have hmn : m * n = 0 := by rcases hz with rfl | ⟨_, rfl⟩ <;> simp
  obtain ⟨hi, hmul⟩ : ∃ hi, double.mul a b = some hi := ⟨_, mul_num ha hb⟩
  have hrd : ∃ q, double.read hi = .number (s ^^ t) 0 q := by
    have e := mul_num ha hb
    rw [hmul, hmn] at e
    injection e with e
    rw [e]
    exact ⟨_, nearest_zero _ _⟩
  obtain ⟨q, hrd⟩ := hrd
  have hrn : double.read (Op.negFloat .f64 hi) = .number (!(s ^^ t)) 0 q := by rw [neg_read hi (writes_lt hmul), hrd]; rfl
  obtain ⟨lo, hfma⟩ := fma_some ha hb (y := Op.negFloat .f64 hi) (.inl ⟨_, _, _, hrn⟩)
  obtain ⟨g', q', hrl⟩ := fma_zero ha hb hmn hrn hfma
  have ohi : FloatKind.f64.format.order hi 0 = some .eq := ord_zero hrd
  have olo : FloatKind.f64.format.order lo 0 = some .eq := ord_zero hrl
  have HM := hid hmul
  have HF := hid hfma
  clear hrd hrn hrl hfma hmul hmn
  rcases hz with rfl | ⟨hm, rfl⟩
  · have oa0 : FloatKind.f64.format.order a 0 = some .eq := ord_zero ha
    clear ha hb
    go_enter Try.func3, Try.ntmps3
    go_wp2_with fail
    refine (zz_any a b hi lo _ HM.out HF.out).mono ?_
    rintro e w1 ⟨rfl, hbl⟩
    have HB := hid hbl
    clear hbl
    go_wp2
    go_ret
    exact ⟨rfl, HB.out⟩
  · have oa0 : (FloatKind.f64.format.order a 0 == some Ordering.eq) = false := ord_ne hm ha
    have ob0 : FloatKind.f64.format.order b 0 = some .eq := ord_zero hb
    clear ha hb
    go_enter Try.func3, Try.ntmps3
    go_wp2_with fail
    refine (zz_any a b hi lo _ HM.out HF.out).mono ?_
    rintro e w1 ⟨rfl, hbl⟩
    have HB := hid hbl
    clear hbl
    go_wp2
    go_ret
    exact ⟨rfl, HB.out⟩
end Go.Proofs.Qxb6604568a
