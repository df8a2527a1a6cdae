import Derived.Test.Qxb6604568aRows
import Derived.Test.Qxb6604568aPlain4
import Derived.WalkKit
import Derived.WalkSpells
import Derived.WalkLawsBesides
import Derived.Shelf.Bits.Mul64
import Derived.Lib.Mul64
namespace Go.Proofs.Qxb6604568a
open Go.RowKit
theorem hid {p : Prop} (h : p) : Hid p := h
set_option maxHeartbeats 1000000 in
theorem mul_any (x y : Nat) (hx : x < 18446744073709551616) (hy : y < 18446744073709551616) (w : World) :
    Calls Try.prog 6 #[.int .u64 x, .int .u64 y] w fun e w' => e = .returned (.tuple #[.int .u64 ((x * y / 18446744073709551616 : Nat) : Int), .int .u64 ((x * y % 18446744073709551616 : Nat) : Int)]) ∧ w' = w := by
  obtain ⟨bd, bt, bw, hhi⟩ := Lib.mul64_hi x y hx hy
  have ba := Lib.half_mul_le (a := x / 4294967296) (b := y / 4294967296) (by omega) (by omega)
  have bb := Lib.half_mul_le (a := x / 4294967296) (b := y % 4294967296) (by omega) (by omega)
  have bc := Lib.half_mul_le (a := x % 4294967296) (b := y / 4294967296) (by omega) (by omega)
  have ba' : x / 4294967296 * (y / 4294967296) < 18446744073709551616 := by omega
  have bb' : x / 4294967296 * (y % 4294967296) < 18446744073709551616 := by omega
  have bc' : x % 4294967296 * (y / 4294967296) < 18446744073709551616 := by omega
  have bh1 : x / 4294967296 * (y / 4294967296) + (x / 4294967296 * (y % 4294967296) + x % 4294967296 * (y % 4294967296) / 4294967296) / 4294967296 < 18446744073709551616 := by omega
  have bh : x / 4294967296 * (y / 4294967296) + (x / 4294967296 * (y % 4294967296) + x % 4294967296 * (y % 4294967296) / 4294967296) / 4294967296 + ((x / 4294967296 * (y % 4294967296) + x % 4294967296 * (y % 4294967296) / 4294967296) % 4294967296 + x % 4294967296 * (y / 4294967296)) / 4294967296 < 18446744073709551616 := by omega
  go_enter Try.func6, Try.ntmps6
  go_wp2
  simp only [Mul64.maskN x hx, Mul64.maskN y hy, Mul64.divN, Mul64.mulN, Mul64.addN, Mul64.wrapN _ bd, Mul64.wrapN _ bb', Mul64.wrapN _ bt, Mul64.maskN _ bt, Mul64.wrapN _ bc', Mul64.wrapN _ bw, Mul64.wrapN _ ba', Mul64.wrapN _ bh1, Mul64.wrapN _ bh, Mul64.wrapM (x * y)]
  rw [hhi]
  go_ret2
  exact ⟨rfl, rfl⟩
/-- A number in two words, high word first. -/
def RetW (V : Nat) (e : Ending) : Prop := ∃ hh hl : Nat, hh * 18446744073709551616 + hl = V ∧ hl < 18446744073709551616 ∧ e = .returned (.tuple #[.int .u64 hh, .int .u64 hl])
/-- .. and true. -/
def RetS (V : Nat) (e : Ending) : Prop := ∃ hh hl : Nat, hh * 18446744073709551616 + hl = V ∧ hl < 18446744073709551616 ∧ e = .returned (.tuple #[.int .u64 hh, .int .u64 hl, .bool true])
theorem retS {V : Nat} {e : Ending} (hh hl : Nat) (h1 : hh * 18446744073709551616 + hl = V) (h2 : hl < 18446744073709551616) (h3 : e = .returned (.tuple #[.int .u64 hh, .int .u64 hl, .bool true])) : RetS V e := ⟨hh, hl, h1, h2, h3⟩
theorem retW {V : Nat} {e : Ending} (hh hl : Nat) (h1 : hh * 18446744073709551616 + hl = V) (h2 : hl < 18446744073709551616) (h3 : e = .returned (.tuple #[.int .u64 hh, .int .u64 hl])) : RetW V e := ⟨hh, hl, h1, h2, h3⟩
theorem ret3 {a b a' b' : Int} {c : Bool} (h1 : a = a') (h2 : b = b') : Ending.returned (.tuple #[.int .u64 a, .int .u64 b, .bool c]) = .returned (.tuple #[.int .u64 a', .int .u64 b', .bool c]) := by rw [h1, h2]
theorem ret2 {a b a' b' : Int} (h1 : a = a') (h2 : b = b') : Ending.returned (.tuple #[.int .u64 a, .int .u64 b]) = .returned (.tuple #[.int .u64 a', .int .u64 b']) := by rw [h1, h2]
theorem mul_ret (x y : Nat) (hx : x < 18446744073709551616) (hy : y < 18446744073709551616) (w : World) : Calls Try.prog 6 #[.int .u64 x, .int .u64 y] w fun e w' => RetW (x * y) e ∧ w' = w := by
  refine (mul_any x y hx hy w).mono ?_
  rintro e w' ⟨rfl, rfl⟩
  exact ⟨retW _ _ (by have := Nat.div_add_mod (x * y) 18446744073709551616; omega) (Nat.mod_lt _ (by decide)) rfl, rfl⟩
set_option maxHeartbeats 400000 in
theorem scale_52 (m : Nat) (w : World) :
    Calls Try.prog 7 #[.int .u64 m, .int .i64 52] w fun e w' => RetS (m * 4503599627370496) e ∧ w' = w := by
  go_enter Try.func7, Try.ntmps7
  go_wp2
  go_ret3
  exact ⟨retS (m / 4096) (m * 4503599627370496 % 18446744073709551616) (by omega) (by omega) (ret3 (by omega) (by rw [IntKind.wrap_u64]; omega)), rfl⟩
set_option maxHeartbeats 400000 in
theorem scale_53 (m : Nat) (w : World) :
    Calls Try.prog 7 #[.int .u64 m, .int .i64 53] w fun e w' => RetS (m * 9007199254740992) e ∧ w' = w := by
  go_enter Try.func7, Try.ntmps7
  go_wp2
  go_ret3
  exact ⟨retS (m / 2048) (m * 9007199254740992 % 18446744073709551616) (by omega) (by omega) (ret3 (by omega) (by rw [IntKind.wrap_u64]; omega)), rfl⟩
set_option maxHeartbeats 400000 in
theorem scale_54 (m : Nat) (w : World) :
    Calls Try.prog 7 #[.int .u64 m, .int .i64 54] w fun e w' => RetS (m * 18014398509481984) e ∧ w' = w := by
  go_enter Try.func7, Try.ntmps7
  go_wp2
  go_ret3
  exact ⟨retS (m / 1024) (m * 18014398509481984 % 18446744073709551616) (by omega) (by omega) (ret3 (by omega) (by rw [IntKind.wrap_u64]; omega)), rfl⟩
theorem scale_hi (m u : Nat) (hu1 : 52 ≤ u) (hu2 : u ≤ 54) (w : World) : Calls Try.prog 7 #[.int .u64 m, .int .i64 u] w fun e w' => RetS (m * 2 ^ u) e ∧ w' = w := by
  obtain rfl | rfl | rfl : u = 52 ∨ u = 53 ∨ u = 54 := by omega
  · rw [pw52]; exact scale_52 m w
  · rw [pw53]; exact scale_53 m w
  · rw [pw54]; exact scale_54 m w
set_option maxHeartbeats 400000 in
theorem scale_zero (m : Nat) (w : World) : Calls Try.prog 7 #[.int .u64 m, .int .i64 0] w fun e w' => e = .returned (.tuple #[.int .u64 0, .int .u64 m, .bool true]) ∧ w' = w := by
  go_enter Try.func7, Try.ntmps7
  go_wp2
  go_ret3
  exact ⟨rfl, rfl⟩
theorem mask_zero (r y : Nat) (hy : y ≤ 52) (h : r * 2 ^ y < 9007199254740992) : (bits BinOp.and IntKind.u64 ((r * 2 ^ y : Nat) : Int) (IntKind.u64.wrap (IntKind.u64.wrap (2 ^ y) - 1)) != 0) = false := by
  have hp : 2 ^ y ≤ 4503599627370496 := by rw [← pw52]; exact Nat.pow_le_pow_right (by omega) hy
  have hp0 : 0 < 2 ^ y := Nat.two_pow_pos y
  have e0 : (2 : Int) ^ y = ((2 ^ y : Nat) : Int) := by simp
  have e1 : IntKind.u64.wrap ((2 : Int) ^ y) = ((2 ^ y : Nat) : Int) := by rw [e0, IntKind.wrap_u64]; omega
  have e2 : IntKind.u64.wrap (((2 ^ y : Nat) : Int) - 1) = ((2 ^ y - 1 : Nat) : Int) := by rw [IntKind.wrap_u64]; omega
  rw [e1, e2, bits_and_u64_nat _ _ (by omega) (by omega), Nat.and_two_pow_sub_one_eq_mod, Nat.mul_mod_left]
  rfl
theorem div_back (r y : Nat) : ((r * 2 ^ y : Nat) : Int) / 2 ^ y = (r : Int) := by
  have e0 : (2 : Int) ^ y = ((2 ^ y : Nat) : Int) := by simp
  rw [e0, ← Int.natCast_ediv, Nat.mul_div_cancel _ (Nat.two_pow_pos y)]
set_option maxHeartbeats 400000 in
theorem scale_neg (m r y : Nat) (hm : m = r * 2 ^ y) (h2 : m < 9007199254740992) (hy0 : 0 < y) (hy : y ≤ 52) (w : World) :
    Calls Try.prog 7 #[.int .u64 m, .int .i64 (-(y : Int))] w fun e w' => e = .returned (.tuple #[.int .u64 0, .int .u64 r, .bool true]) ∧ w' = w := by
  have hb : (bits BinOp.and IntKind.u64 (m : Int) (IntKind.u64.wrap (IntKind.u64.wrap (2 ^ y) - 1)) != 0) = false := by rw [hm]; exact mask_zero r y hy (by omega)
  have HD : Hid ((m : Int) / 2 ^ y = (r : Int)) := hid (by rw [hm]; exact div_back r y)
  clear hm
  go_enter Try.func7, Try.ntmps7
  go_wp2
  go_ret3
  exact ⟨ret3 rfl HD.out, rfl⟩
/-- The rest's two words, whatever the shift. -/
theorem scale_lo (m r y : Nat) (hm : m = r * 2 ^ y) (h2 : m < 9007199254740992) (hy : y ≤ 52) (w : World) :
    Calls Try.prog 7 #[.int .u64 m, .int .i64 (-(y : Int))] w fun e w' => e = .returned (.tuple #[.int .u64 0, .int .u64 r, .bool true]) ∧ w' = w := by
  rcases Nat.eq_zero_or_pos y with rfl | h0
  · obtain rfl : m = r := by rw [hm]; simp
    exact scale_zero m w
  · exact scale_neg m r y hm h2 h0 hy w
set_option maxHeartbeats 400000 in
theorem add_any (ah al r : Nat) (h1 : ah < 9223372036854775808) (h2 : al < 18446744073709551616) (h3 : r < 18446744073709551616) (w : World) :
    Calls Try.prog 8 #[.int .u64 ah, .int .u64 al, .int .u64 0, .int .u64 r] w fun e w' => RetW (ah * 18446744073709551616 + al + r) e ∧ w' = w := by
  by_cases hc : al + r < 18446744073709551616
  · go_enter Try.func8, Try.ntmps8
    go_wp2
    go_ret2
    exact ⟨retW ah (al + r) (by omega) hc (ret2 rfl (by omega)), rfl⟩
  · obtain ⟨lo, hlo⟩ : ∃ lo, lo + 18446744073709551616 = al + r := ⟨al + r - 18446744073709551616, by omega⟩
    have hw : IntKind.u64.wrap ((al : Int) + (r : Int)) = (lo : Int) := by rw [IntKind.wrap_u64]; omega
    have hl : (lo : Int) < (al : Int) := by omega
    have HL := hid hlo
    clear hlo hc
    go_enter Try.func8, Try.ntmps8
    go_wp2
    go_ret2
    exact ⟨retW (ah + 1) lo (by have := HL.out; omega) (by omega) (ret2 (by omega) rfl), rfl⟩
set_option maxHeartbeats 400000 in
theorem sub_any (ah al r : Nat) (h0 : 0 < ah) (h1 : ah < 9223372036854775808) (h2 : al < 18446744073709551616) (h3 : r < 18446744073709551616) (V : Nat) (hV : V + r = ah * 18446744073709551616 + al) (w : World) :
    Calls Try.prog 10 #[.int .u64 ah, .int .u64 al, .int .u64 0, .int .u64 r] w fun e w' => RetW V e ∧ w' = w := by
  have HV := hid hV
  clear hV
  by_cases hc : r ≤ al
  · have hc' : ¬ (al : Int) < (r : Int) := by omega
    have hw : IntKind.u64.wrap ((al : Int) - (r : Int)) = ((al - r : Nat) : Int) := by rw [IntKind.wrap_u64]; omega
    go_enter Try.func10, Try.ntmps10
    go_wp2
    go_ret2
    exact ⟨retW ah (al - r) (by have := HV.out; omega) (by omega) (ret2 rfl (by omega)), rfl⟩
  · have hc' : (al : Int) < (r : Int) := by omega
    obtain ⟨lo, hlo⟩ : ∃ lo, lo + r = al + 18446744073709551616 := ⟨al + 18446744073709551616 - r, by omega⟩
    have hw : IntKind.u64.wrap ((al : Int) - (r : Int)) = (lo : Int) := by rw [IntKind.wrap_u64]; omega
    have hl : lo < 18446744073709551616 := by omega
    have HL := hid hlo
    clear hlo hc
    have h0' : (0 : Int) < (ah : Int) := by omega
    go_enter Try.func10, Try.ntmps10
    go_wp2
    go_ret2
    exact ⟨retW (ah - 1) lo (by have := HV.out; have := HL.out; omega) hl (ret2 (by omega) rfl), rfl⟩
set_option maxHeartbeats 400000 in
theorem less_any (ah al r : Nat) (h1 : 0 < ah) (w : World) :
    Calls Try.prog 9 #[.int .u64 ah, .int .u64 al, .int .u64 0, .int .u64 r] w fun e w' => e = .returned (.bool false) ∧ w' = w := by
  have e1 : ((ah : Int) == 0) = false := by rw [beq_eq_false_iff_ne]; omega
  have e2 : decide ((ah : Int) < 0) = false := by simp
  go_enter Try.func9, Try.ntmps9
  go_wp2
  go_ret
  exact ⟨rfl, rfl⟩
end Go.Proofs.Qxb6604568a
