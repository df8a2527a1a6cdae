import Derived.Test.Qxb6604347aRows
import Derived.WalkKit
import Derived.WalkSpells
import Derived.WalkLawsBesides
import Derived.Deep.QuietTactic
import Derived.BigQuiet
namespace Go.Proofs.Qxb6604347a
open Go.RowKit
theorem hid {p : Prop} (h : p) : Hid p := h
/-- The members that a slice leads to: n of them, their names N, addresses A, marks C. -/
def Mem (w : World) (a : Option Addr) (n : Nat) (N A : Nat → ByteArray) (C : Nat → Bool) : Prop :=
  n = 0 ∨ ∃ b o, a = some ⟨b, o, none⟩ ∧ b < w.heap.size ∧ ∀ i, i < n → w.cell? ⟨b, o + i * 3, none⟩ = some (.string (N i)) ∧ w.cell? ⟨b, o + i * 3 + 1, none⟩ = some (.string (A i)) ∧ w.cell? ⟨b, o + i * 3 + 2, none⟩ = some (.bool (C i))
theorem Mem.at {w : World} {a : Option Addr} {n : Nat} {N A : Nat → ByteArray} {C : Nat → Bool} (h : Mem w a n N A C) {k : Nat} (hk : k < n) :
    ∃ b o, a = some ⟨b, o, none⟩ ∧ w.cell? ⟨b, o + k * 3, none⟩ = some (.string (N k)) ∧ w.cell? ⟨b, o + k * 3 + 1, none⟩ = some (.string (A k)) ∧ w.cell? ⟨b, o + k * 3 + 2, none⟩ = some (.bool (C k)) := by
  rcases h with h | ⟨b, o, h1, _, h2⟩
  · omega
  · exact ⟨b, o, h1, h2 k hk⟩
/-- It answers a bool; if that is q, then S. -/
def RetB (q : Bool) (S : Prop) (e : Ending) : Prop := ∃ r : Bool, e = .returned (.bool r) ∧ (r = q → S)
/-- The sum of the lengths of the first k names and addresses. -/
def tot (N A : Nat → ByteArray) : Nat → Nat
  | 0 => 0
  | k + 1 => tot N A k + (N k).size + (A k).size
/-- A byte that may not stand in a name or address. -/
def isSep (b : UInt8) : Bool := b == 44 || b == 61 || b == 40
set_option maxHeartbeats 400000 in
theorem bytes_any (a : Option Addr) (n c : Nat) (N A : Nat → ByteArray) (C : Nat → Bool) (v1 v2 : Int) (w : World) (hm : Mem w a n N A C) (hn : n ≤ maxLen) (hN : ∀ i, (N i).size ≤ maxLen) (hA : ∀ i, (A i).size ≤ maxLen) :
    Calls Try.prog 4 #[.slice a n c, .int .u64 v1, .int .u64 v2] w fun e w' => RetB true (∀ i, i < n → (N i).size ≤ 1048576 ∧ (A i).size ≤ 1048576) e ∧ w' = w := by
  unfold maxLen at hn hN hA
  have HM := hid hm
  have HN := hid hN
  have HA := hid hA
  clear hm hN hA
  by_cases hbig : (1048576 : Int) < n
  · go_enter Try.func4, Try.ntmps4
    go_wp2
    go_ret
    exact ⟨⟨_, rfl, fun h => by cases h⟩, rfl⟩
  go_enter Try.func4, Try.ntmps4
  go_wp2
  go_loop [7, 8] (fun z i => ∃ k m : Nat, k ≤ n ∧ m ≤ 1048576 ∧ i = .int .i64 k ∧ z = .int .i64 m ∧ Hid (∀ i, i < k → (N i).size ≤ 1048576 ∧ (A i).size ≤ 1048576)) (fun _ i => n - (intOf i).toNat)
  case atStart => exact ⟨0, n, Nat.zero_le _, by omega, rfl, rfl, fun i hi => by omega⟩
  case round =>
    obtain ⟨k, m, hk, hm, rfl, rfl, hall⟩ := hrel
    by_cases hlt : k < n
    · obtain ⟨b, o, rfl, h1, h2, h3⟩ := HM.out.at hlt
      clear h3
      have hb1 := HN.out k
      have hb2 := HA.out k
      have hlt' : (k : Int) < (n : Int) := by omega
      go_wp2
      · go_ret
        exact ⟨⟨_, rfl, fun h => by cases h⟩, rfl⟩
      · go_ret
        exact ⟨⟨_, rfl, fun h => by cases h⟩, rfl⟩
      · go_ret
        exact ⟨⟨_, rfl, fun h => by cases h⟩, rfl⟩
      · go_ret
        exact ⟨⟨_, rfl, fun h => by cases h⟩, rfl⟩
      go_round
      case rel => exact ⟨k + 1, m + (N k).size + (A k).size, by omega, by omega, by go_num, by go_num, fun i hi => by
        by_cases e : i = k
        · subst e; omega
        · exact hall.out i (by omega)⟩
      case measure => simp [intOf]; omega
    · go_wp2
      go_ret
      exact ⟨⟨_, rfl, fun _ i hi => hall.out i (by omega)⟩, rfl⟩
theorem tot_end {n k m : Nat} {N A : Nat → ByteArray} (h1 : k ≤ n) (h2 : ¬ k < n) (h3 : m = 40 * n + tot N A k) (h4 : m ≤ 1048576) : 40 * n + tot N A n ≤ 1048576 := by
  obtain rfl : k = n := by omega
  omega
set_option maxHeartbeats 400000 in
theorem big_any (a : Option Addr) (n c : Nat) (N A : Nat → ByteArray) (C : Nat → Bool) (w : World) (hm : Mem w a n N A C) (hn : n ≤ maxLen) (hS : ∀ i, i < n → (N i).size ≤ 1048576 ∧ (A i).size ≤ 1048576) :
    Calls Try.prog 5 #[.slice a n c] w fun e w' => RetB false (40 * n + tot N A n ≤ 1048576) e ∧ ∃ m, w' = w.drewN m := by
  unfold maxLen at hn
  have HM := hid hm
  have HS := hid hS
  clear hm hS
  by_cases hbig : (65536 : Int) < n
  · go_enter Try.func5, Try.ntmps5
    go_wp2
    go_ret
    exact ⟨⟨_, rfl, fun h => by cases h⟩, 0, rfl⟩
  by_cases hbig2 : (1048576 : Int) < 40 * n
  · go_enter Try.func5, Try.ntmps5
    go_wp2
    go_ret
    exact ⟨⟨_, rfl, fun h => by cases h⟩, 0, rfl⟩
  go_enter Try.func5, Try.ntmps5
  go_wp2
  go_loopw [3, 4] (fun z i wr => ∃ k m q : Nat, k ≤ n ∧ m ≤ 1048576 ∧ i = .int .i64 k ∧ z = .int .i64 m ∧ Hid (m = 40 * n + tot N A k) ∧ wr = w.drewN q) (fun _ i _ => n - (intOf i).toNat)
  case atStart => exact ⟨0, 40 * n, 0, Nat.zero_le _, by omega, rfl, by go_num, rfl, rfl⟩
  case round =>
    obtain ⟨k, m, q, hk, hm, rfl, rfl, ht, rfl⟩ := hrel
    by_cases hlt : k < n
    · obtain ⟨b, o, rfl, h1, h2, h3⟩ := HM.out.at hlt
      clear h3
      obtain ⟨hb1, hb2⟩ := HS.out k hlt
      have hlt' : (k : Int) < (n : Int) := by omega
      go_wp2
      go_quiet (fail)
      go_wp2
      · go_ret
        exact ⟨⟨_, rfl, fun h => by cases h⟩, _, rfl⟩
      · go_roundw
        case rel => exact ⟨k + 1, m + ((N k).size + (A k).size), _, by omega, by omega, by go_num, by go_num, by have := ht.out; show _ = _; simp only [tot]; omega, rfl⟩
        case measure => simp [intOf]; omega
    · go_wp2
      go_ret
      exact ⟨⟨_, rfl, fun _ => tot_end hk hlt ht.out hm⟩, _, rfl⟩
def hasSep (t : ByteArray) : Bool := t.data.toList.any isSep
theorem sep_yes {t : ByteArray} {k : Nat} (h : k < t.size) (hs : isSep t[k] = true) : hasSep t = true := by
  unfold hasSep
  rw [List.any_eq_true]
  exact ⟨t[k], by simp [ByteArray.getElem_eq_getElem_data], hs⟩
theorem sep_no {t : ByteArray} (h : ∀ k (hk : k < t.size), isSep t[k] = false) : hasSep t = false := by
  unfold hasSep
  rw [List.any_eq_false]
  intro x hx
  obtain ⟨k, hk, rfl⟩ := List.mem_iff_getElem.1 hx
  have := h k (by simpa using hk)
  simpa [ByteArray.getElem_eq_getElem_data] using this
theorem isSep_iff {b : UInt8} : isSep b = true ↔ (b.toNat : Int) = 44 ∨ (b.toNat : Int) = 61 ∨ (b.toNat : Int) = 40 := by
  unfold isSep
  simp only [Bool.or_eq_true, beq_iff_eq, ← UInt8.toNat_inj]
  have e1 : (44 : UInt8).toNat = 44 := rfl
  have e2 : (61 : UInt8).toNat = 61 := rfl
  have e3 : (40 : UInt8).toNat = 40 := rfl
  rw [e1, e2, e3]
  omega
theorem isSep_3 {b : UInt8} (h : (((b.toNat : Int) == 44) = true ∨ ((b.toNat : Int) == 61) = true) ∨ ((b.toNat : Int) == 40) = true) : isSep b = true := by
  rw [isSep_iff]
  simp only [beq_iff_eq] at h
  omega
theorem isSep_not {b : UInt8} (h : (((b.toNat : Int) == 44) = false ∧ ((b.toNat : Int) == 61) = false) ∧ ((b.toNat : Int) == 40) = false) : isSep b = false := by
  simp only [beq_eq_false_iff_ne, ne_eq] at h
  rw [← Bool.not_eq_true, isSep_iff]
  omega
set_option maxHeartbeats 400000 in
theorem hasSep_any (t : ByteArray) (ht : t.size ≤ maxLen) (w : World) :
    Calls Try.prog 6 #[.string t] w fun e w' => e = .returned (.bool (hasSep t)) ∧ w' = w := by
  unfold maxLen at ht
  go_enter Try.func6, Try.ntmps6
  go_wp2
  go_loop [3] (fun i => ∃ k : Nat, k ≤ t.size ∧ i = .int .i64 k ∧ Hid (∀ j (hj : j < t.size), j < k → isSep t[j] = false)) (fun i => t.size - (intOf i).toNat)
  case atStart => exact ⟨0, Nat.zero_le _, rfl, fun j hj h => by omega⟩
  case round =>
    obtain ⟨k, hk, rfl, hall⟩ := hrel
    by_cases hlt : k < t.size
    · go_wp2
      · go_ret
        exact ⟨by rw [sep_yes hlt (isSep_iff.2 (.inl ‹_›))]; rfl, rfl⟩
      · go_ret
        exact ⟨by rw [sep_yes hlt (isSep_iff.2 (.inr (.inl ‹_›)))]; rfl, rfl⟩
      · go_ret
        exact ⟨by rw [sep_yes hlt (isSep_3 ‹_›)]; rfl, rfl⟩
      · go_round
        case rel => exact ⟨k + 1, by omega, by go_num, fun j hj hjk => by
          by_cases e : j = k
          · subst e; exact isSep_not ‹_›
          · exact hall.out j hj (by omega)⟩
        case measure => simp [intOf]; omega
    · go_wp2
      go_ret
      exact ⟨by rw [sep_no (fun j hj => hall.out j hj (by omega))]; rfl, rfl⟩
end Go.Proofs.Qxb6604347a
