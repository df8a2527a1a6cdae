import Derived.Test.Qxb6604347aW5
namespace Go.Proofs.Qxb6604347a
open Go.RowKit
set_option maxHeartbeats 400000 in
theorem parse_none (w : World) : Calls Try.prog 9 #[.string ⟨#[]⟩] w fun e w' => e = .returned (.tuple #[.slice none 0 0, .bool true]) ∧ w' = w := by
  go_enter Try.func9, Try.ntmps9
  go_wp2
  go_ret2
  exact ⟨rfl, rfl⟩
theorem Mem.below {w w1 : World} {a : Option Addr} {n : Nat} {N A : Nat → ByteArray} {C : Nat → Bool} (h : Mem w a n N A C) (hb : Below w.heap.size w w1) : Mem w1 a n N A C := by
  rcases h with h | ⟨b, o, e, hlt, h⟩
  · exact .inl h
  · refine .inr ⟨b, o, e, Nat.lt_of_lt_of_le hlt hb.size, fun i hi => ?_⟩
    obtain ⟨h1, h2, h3⟩ := h i hi
    exact ⟨(hb.cell (p := ⟨b, _, none⟩) hlt).trans h1, (hb.cell (p := ⟨b, _, none⟩) hlt).trans h2, (hb.cell (p := ⟨b, _, none⟩) hlt).trans h3⟩
/-- String, then the reader: whatever the number of members. -/
theorem parse_all (N A : Nat → ByteArray) (C : Nat → Bool) (n : Nat) (w : World) (hn : n ≤ 65536) (hS : ∀ i, i < n → (N i).size ≤ 1048576 ∧ (A i).size ≤ 1048576)
    (hsep : ∀ i, i < n → hasSep (N i) = false ∧ hasSep (A i) = false) :
    Calls Try.prog 9 #[.string ⟨(txt N A C n).toArray⟩] w fun e w' => RetP n N A C e w' ∧ Below w.heap.size w w' := by
  rcases Nat.eq_zero_or_pos n with rfl | h0
  · refine (parse_none w).mono ?_
    rintro e w' ⟨rfl, rfl⟩
    exact ⟨⟨none, 0, rfl, .inl rfl⟩, Below.refl _ _⟩
  · exact parse_any _ N A C n w (by simp) hn h0 hS hsep
set_option maxHeartbeats 1000000 in
theorem walk (a : Option Addr) (n c : Nat) (N A : Nat → ByteArray) (C : Nat → Bool) (v1 v2 : Int) (w : World) (hm : Mem w a n N A C) (hnil : a = none → n = 0) (hn : n ≤ maxLen) (hN : ∀ i, (N i).size ≤ maxLen) (hA : ∀ i, (A i).size ≤ maxLen) :
    Calls Try.prog 3 #[.slice a n c, .int .u64 v1, .int .u64 v2] w fun e w' => e = .returned (.bool true) ∧ Below w.heap.size w w' := by
  have HM := hid hm
  have HN := hid hN
  have HA := hid hA
  have HX := hid hn
  have HNIL := hid hnil
  clear hm hN hA hn hnil
  go_enter Try.func3, Try.ntmps3
  go_wp2_with fail
  refine (bytes_any a n c N A C v1 v2 w HM.out HX.out HN.out HA.out).mono ?_
  rintro e w1 ⟨⟨r, rfl, hr⟩, rfl⟩
  cases r with
  | false =>
    clear hr
    go_wp2
    go_ret
    exact ⟨rfl, Below.refl _ _⟩
  | true =>
    have HSZ := hid (hr rfl)
    clear hr
    go_wp2_with fail
    refine (big_any a n c N A C w1 HM.out HX.out HSZ.out).mono ?_
    rintro e w2 ⟨⟨r, rfl, hr⟩, m, rfl⟩
    cases r with
    | true =>
      clear hr
      go_wp2
      go_ret
      exact ⟨rfl, below_drewN (Below.refl _ _) _⟩
    | false =>
      have hsum := hr rfl
      have hnn : n ≤ 65536 := by omega
      clear hr hsum
      go_wp2
      go_loop [7] (fun i => ∃ k : Nat, k ≤ n ∧ i = .int .i64 k ∧ Hid (∀ j, j < k → hasSep (N j) = false ∧ hasSep (A j) = false)) (fun i => n - (intOf i).toNat)
      case atStart => exact ⟨0, Nat.zero_le _, rfl, fun j hj => by omega⟩
      case round =>
        obtain ⟨k, hk, rfl, hall⟩ := hrel
        by_cases hlt : k < n
        · obtain ⟨b, o, rfl, h1, h2, h3⟩ := HM.out.at hlt
          clear h3
          have hlt' : (k : Int) < (n : Int) := by omega
          go_wp2_with fail
          refine (hasSep_any (N k) (HN.out k) _).mono ?_
          rintro e w2 ⟨rfl, rfl⟩
          cases hsn : hasSep (N k) with
          | true =>
            clear hsn
            go_wp2
            go_ret
            exact ⟨rfl, below_drewN (Below.refl _ _) _⟩
          | false =>
            have HSN := hid hsn
            clear hsn
            go_wp2_with fail
            refine (hasSep_any (A k) (HA.out k) _).mono ?_
            rintro e w2 ⟨rfl, rfl⟩
            cases hsa : hasSep (A k) with
            | true =>
              clear hsa
              go_wp2
              go_ret
              exact ⟨rfl, below_drewN (Below.refl _ _) _⟩
            | false =>
              have HSA := hid hsa
              clear hsa
              go_wp2
              go_round
              case rel => exact ⟨k + 1, by omega, by go_num, fun j hj => by
                by_cases e : j = k
                · subst e; exact ⟨HSN.out, HSA.out⟩
                · exact hall.out j (by omega)⟩
              case measure => simp [intOf]; omega
        · obtain rfl : k = n := by omega
          clear hlt hk
          go_wp2_with fail
          refine (copy_any a k c N A C (w1.drewN m) (HM.out.below (below_drewN (Below.refl _ _) _)) hnn HNIL.out).mono ?_
          rintro e w3 ⟨⟨a3, c3, rfl, hn3, hm3⟩, hb3⟩
          have HM3 := hid hm3
          have HB3 : Hid (Below w1.heap.size w1 w3) := hid ((below_drewN (Below.refl w1.heap.size w1) m).trans hb3)
          have HN3 : Hid (a3 = none → k = 0) := fun h => HNIL.out (hn3 h)
          clear hm3 hb3 hn3
          go_wp2_with fail
          refine (store_any a3 k c3 N A C w3 HM3.out hnn HN3.out).mono ?_
          rintro e w4 ⟨⟨a4, c4, rfl, _, hm4⟩, hb4⟩
          have HM4 := hid hm4
          have HM3' := hid (HM3.out.below hb4)
          have HB4 := hid (HB3.out.trans (hb4.mono HB3.out.size))
          clear hm4 hb4
          go_wp2_with fail
          refine (string_any a4 k c4 N A C v1 v2 _ (HM4.out.below ((Below.refl _ _).alloc (Nat.le_refl _) _)) hnn HSZ.out).mono ?_
          rintro e w5 ⟨rfl, hb5⟩
          have HB45 : Hid (Below w4.heap.size w4 w5) := ((Below.refl _ _).alloc (Nat.le_refl _) _).trans (hb5.mono (by simp))
          clear hb5
          go_wp2_with fail
          refine (parse_all N A C k w5 hnn HSZ.out hall.out).mono ?_
          rintro e w6 ⟨⟨a6, c6, rfl, hm6⟩, hb6⟩
          have HM6 := hid hm6
          have HB46 : Hid (Below w4.heap.size w4 w6) := HB45.out.trans (hb6.mono HB45.out.size)
          have HM3'' := hid (HM3'.out.below HB46.out)
          have HB6 : Hid (Below w1.heap.size w1 w6) := HB4.out.trans (HB46.out.mono HB4.out.size)
          clear hm6 hb6
          have hkk : ((k : Int) != (k : Int)) = false := by simp
          go_wp2
          go_loopw [11] (fun i wr => ∃ j q : Nat, j ≤ k ∧ i = .int .i64 j ∧ wr = w6.drewN q) (fun i _ => k - (intOf i).toNat)
          case atStart => exact ⟨0, 0, Nat.zero_le _, rfl, rfl⟩
          case round =>
            obtain ⟨j, q, hj, rfl, rfl⟩ := hrel
            by_cases hlt : j < k
            · obtain ⟨b, o, rfl, h1, h2, h3⟩ := HM3''.out.at hlt
              obtain ⟨b', o', rfl, h1', h2', h3'⟩ := HM6.out.at hlt
              have hlt' : (j : Int) < (k : Int) := by omega
              go_wp2
              go_quiet (fail)
              go_wp2
              go_roundw
              case rel => exact ⟨j + 1, _, by omega, by go_num, rfl⟩
              case measure => simp [intOf]; omega
            · go_wp2
              go_ret
              exact ⟨rfl, below_drewN HB6.out _⟩
end Go.Proofs.Qxb6604347a
