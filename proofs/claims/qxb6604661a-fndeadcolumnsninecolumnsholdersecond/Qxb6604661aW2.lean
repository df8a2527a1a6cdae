import Derived.Test.Qxb6604661aPlain2
namespace Go.Proofs.Qxb6604661a
open Go.RowKit
theorem isSp_eq (b : UInt8) : isSp b = ((b.toNat : Int) == 32 || (b.toNat : Int) == 9 || (b.toNat : Int) == 10 || (b.toNat : Int) == 13) := by
  unfold isSp
  rw [Bool.eq_iff_iff]
  simp only [Bool.or_eq_true, beq_iff_eq, ← UInt8.toNat_inj]
  have e1 : (32 : UInt8).toNat = 32 := rfl
  have e2 : (9 : UInt8).toNat = 9 := rfl
  have e3 : (10 : UInt8).toNat = 10 := rfl
  have e4 : (13 : UInt8).toNat = 13 := rfl
  rw [e1, e2, e3, e4]
  omega
theorem ret_bool {a b : Bool} (h : a = b) : Ending.returned (.bool a) = .returned (.bool b) := by rw [h]
set_option maxHeartbeats 400000 in
theorem space_any (b : UInt8) (w : World) : Calls Try.prog 11 #[.int .u8 (b.toNat : Int)] w fun e w' => e = .returned (.bool (isSp b)) ∧ w' = w := by
  have HQ := hid (isSp_eq b)
  cases h1 : ((b.toNat : Int) == 32) with
  | true =>
    have HQ1 : Hid (isSp b = true) := hid (by rw [HQ.out, h1]; rfl)
    go_enter Try.func11, Try.ntmps11
    go_wp2
    go_ret
    exact ⟨ret_bool HQ1.out.symm, rfl⟩
  | false =>
    cases h2 : ((b.toNat : Int) == 9) with
    | true =>
      have HQ1 : Hid (isSp b = true) := hid (by rw [HQ.out, h1, h2]; rfl)
      go_enter Try.func11, Try.ntmps11
      go_wp2
      go_ret
      exact ⟨ret_bool HQ1.out.symm, rfl⟩
    | false =>
      cases h3 : ((b.toNat : Int) == 10) with
      | true =>
        have HQ1 : Hid (isSp b = true) := hid (by rw [HQ.out, h1, h2, h3]; rfl)
        go_enter Try.func11, Try.ntmps11
        go_wp2
        go_ret
        exact ⟨ret_bool HQ1.out.symm, rfl⟩
      | false =>
        have HQ1 : Hid (isSp b = ((b.toNat : Int) == 13)) := hid (by rw [HQ.out, h1, h2, h3]; rfl)
        go_enter Try.func11, Try.ntmps11
        go_wp2
        go_ret
        exact ⟨ret_bool HQ1.out.symm, rfl⟩
def trimB (s : ByteArray) : ByteArray := ⟨(trimL s.data.toList).toArray⟩
theorem get_list {s : ByteArray} {j : Nat} {c : UInt8} (h : s.data.toList[j]? = some c) : ∃ hj : j < s.size, s[j] = c := by
  obtain ⟨hj, he⟩ := List.getElem?_eq_some_iff.1 h
  exact ⟨by simpa using hj, by rw [ByteArray.getElem_eq_getElem_data]; simpa using he⟩
theorem ext_data (u : ByteArray) (i j : Nat) : (u.extract i j).data.toList = (u.data.toList.take j).drop i := by
  simp [ByteArray.data_extract, List.drop_take]
theorem ext_self (s : ByteArray) (q : Nat) : s.extract q q = ByteArray.empty := by
  apply ba_ext
  rw [ext_data, List.drop_of_length_le (by simp; omega)]
  rfl
/-- The cut that the two loops end at. -/
theorem trim_out (s : ByteArray) (k q : Nat) (hkq : k ≤ q) (hq : q ≤ s.size) (hA : ∀ j (hj : j < s.size), j < k → isSp s[j] = true) (hB : ∀ j (hj : j < s.size), q ≤ j → isSp s[j] = true)
    (h1 : ∀ (hk : k < s.size), k < q → isSp s[k] = false) (h2 : ∀ (hk : q - 1 < s.size), k < q → isSp s[q - 1] = false) : s.extract k q = trimB s := by
  apply ba_ext
  rw [ext_data]
  refine trim_cut s.data.toList k q hkq (by simpa using hq) ?_ ?_ ?_ ?_
  · intro j c hj hc
    obtain ⟨hj', rfl⟩ := get_list hc
    exact hA j hj' hj
  · intro j c hj hc
    obtain ⟨hj', rfl⟩ := get_list hc
    exact hB j hj' hj
  · intro hlt c hc
    obtain ⟨hj', rfl⟩ := get_list hc
    exact h1 hj' hlt
  · intro hlt c hc
    obtain ⟨hj', rfl⟩ := get_list hc
    exact h2 hj' hlt
set_option maxHeartbeats 1000000 in
theorem trim_any (s : ByteArray) (hs : s.size ≤ 4194304) (w : World) : Calls Try.prog 7 #[.string s] w fun e w' => e = .returned (.string (trimB s)) ∧ w' = w := by
  go_enter Try.func7, Try.ntmps7
  go_wp2
  go_loop [3] (fun v => ∃ k : Nat, k ≤ s.size ∧ v = .int .i64 k ∧ Hid (∀ j (hj : j < s.size), j < k → isSp s[j] = true)) (fun v => s.size - (intOf v).toNat)
  case atStart => exact ⟨0, Nat.zero_le _, rfl, fun j hj h => by omega⟩
  case round =>
    obtain ⟨k, hk, rfl, HA⟩ := hrel
    by_cases hlt : k < s.size
    · have hlt' : (k : Int) < (s.size : Int) := by omega
      go_wp2_with fail
      refine (space_any s[k] _).mono ?_
      rintro e w1 ⟨rfl, rfl⟩
      cases hsp : isSp s[k] with
      | true =>
        have HSP := hid hsp
        clear hsp
        go_wp2
        go_round
        case rel => exact ⟨k + 1, by omega, by go_num, fun j hj h => by
          by_cases e : j = k
          · subst e; exact HSP.out
          · exact HA.out j hj (by omega)⟩
        case measure => simp [intOf]; omega
      | false =>
        have H1 : Hid (∀ (_ : k < s.size), isSp s[k] = false) := hid (fun _ => hsp)
        clear hsp
        go_wp2
        go_loop [4] (fun v => ∃ q : Nat, k ≤ q ∧ q ≤ s.size ∧ v = .int .i64 q ∧ Hid (∀ j (hj : j < s.size), q ≤ j → isSp s[j] = true)) (fun v => (intOf v).toNat)
        case atStart => exact ⟨s.size, hk, Nat.le_refl _, rfl, fun j hj h => by omega⟩
        case round =>
          obtain ⟨q, hkq, hq, rfl, hB⟩ := hrel
          by_cases hgt : k < q
          · obtain ⟨p, rfl⟩ : ∃ p, q = p + 1 := ⟨q - 1, by omega⟩
            have hps : p < s.size := by omega
            have hgt' : (k : Int) < ((p + 1 : Nat) : Int) := by omega
            go_wp2_with fail
            refine (space_any s[p] _).mono ?_
            rintro e w2 ⟨rfl, rfl⟩
            cases hsp : isSp s[p] with
            | true =>
              have HSP := hid hsp
              clear hsp
              go_wp2
              go_round
              case rel => exact ⟨p, by omega, by omega, by go_num, fun j hj h => by
                by_cases e : j = p
                · subst e; exact HSP.out
                · exact hB.out j hj (by omega)⟩
              case measure => simp [intOf]
            | false =>
              have HSP := hid hsp
              clear hsp
              go_wp2
              go_ret
              exact ⟨ret_str (trim_out s k (p + 1) hkq hq HA.out hB.out (fun hk _ => H1.out hk) (fun _ _ => HSP.out)), rfl⟩
          · obtain rfl : q = k := by omega
            go_wp2
            go_ret
            exact ⟨ret_str ((ext_self s q).symm.trans (trim_out s q q hkq hq HA.out hB.out (fun _ h => by omega) (fun _ h => by omega))), rfl⟩
    · have hge : (s.size : Int) ≤ (k : Int) := by omega
      go_wp2
      go_loop [4] (fun v => ∃ q : Nat, k ≤ q ∧ q ≤ s.size ∧ v = .int .i64 q ∧ Hid (∀ j (hj : j < s.size), q ≤ j → isSp s[j] = true)) (fun v => (intOf v).toNat)
      case atStart => exact ⟨s.size, hk, Nat.le_refl _, rfl, fun j hj h => by omega⟩
      case round =>
        obtain ⟨q, hkq, hq, rfl, hB⟩ := hrel
        by_cases hgt : k < q
        · omega
        · obtain rfl : q = k := by omega
          go_wp2
          go_ret
          exact ⟨ret_str ((ext_self s q).symm.trans (trim_out s q q hkq hq HA.out hB.out (fun _ h => by omega) (fun _ h => by omega))), rfl⟩
end Go.Proofs.Qxb6604661a
