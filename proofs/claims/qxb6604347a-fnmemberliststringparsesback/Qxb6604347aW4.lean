import Derived.Test.Qxb6604347aW3
namespace Go.Proofs.Qxb6604347a
open Go.RowKit
theorem U_size {u nm ad : ByteArray} (h : u.data.toList = nm.data.toList ++ 61 :: ad.data.toList) : u.size = nm.size + 1 + ad.size := by
  have := congrArg List.length h
  simp at this
  omega
theorem U_get {u : ByteArray} {l : List UInt8} (h : u.data.toList = l) {k : Nat} (hk : k < u.size) : l[k]? = some u[k] := by
  subst h
  rw [ByteArray.getElem_eq_getElem_data]
  simp
theorem noSep_at {nm : ByteArray} (h : hasSep nm = false) {k : Nat} {b : UInt8} (hb : nm.data.toList[k]? = some b) : isSep b = false := by
  unfold hasSep at h
  rw [List.any_eq_false] at h
  have := h b (List.mem_of_getElem? hb)
  simpa using this
theorem U_found {u nm ad : ByteArray} (h : u.data.toList = nm.data.toList ++ 61 :: ad.data.toList) (h1 : hasSep nm = false) {k : Nat} (hk : k < u.size) (hkn : k ≤ nm.size) (hb' : ((u[k].toNat : Int) == 61) = true) : k = nm.size := by
  have hb : (u[k].toNat : Int) = 61 := by simpa using hb'
  rcases Nat.lt_or_ge k nm.size with hlt | hge
  · have e := U_get h hk
    rw [List.getElem?_append_left (by simpa using hlt)] at e
    have := noSep_at h1 e
    rw [← Bool.not_eq_true, isSep_iff] at this
    omega
  · omega
theorem U_miss {u nm ad : ByteArray} (h : u.data.toList = nm.data.toList ++ 61 :: ad.data.toList) {k : Nat} (hk : k < u.size) (hkn : k ≤ nm.size) (hb' : ((u[k].toNat : Int) == 61) = false) : k < nm.size := by
  have hb : ¬ (u[k].toNat : Int) = 61 := by simpa using hb'
  rcases Nat.lt_or_ge k nm.size with hlt | hge
  · exact hlt
  · obtain rfl : k = nm.size := by omega
    have e := U_get h hk
    rw [List.getElem?_append_right (by simp)] at e
    simp at e
    rw [← e] at hb
    exact absurd rfl hb
theorem ext_data (u : ByteArray) (i j : Nat) : (u.extract i j).data.toList = (u.data.toList.take j).drop i := by
  simp [ByteArray.data_extract, List.drop_take]
theorem ba_ext {a b : ByteArray} (h : a.data.toList = b.data.toList) : a = b := by
  obtain ⟨⟨x⟩⟩ := a
  obtain ⟨⟨y⟩⟩ := b
  simp at h
  subst h
  rfl
theorem U_left {u nm ad : ByteArray} (h : u.data.toList = nm.data.toList ++ 61 :: ad.data.toList) : u.extract 0 nm.size = nm := by
  apply ba_ext
  rw [ext_data, h, List.drop_zero, List.take_append_of_le_length (by simp), List.take_of_length_le (by simp)]
theorem U_right {u nm ad : ByteArray} (h : u.data.toList = nm.data.toList ++ 61 :: ad.data.toList) : u.extract (nm.size + 1) u.size = ad := by
  apply ba_ext
  rw [ext_data, List.take_of_length_le (by simp), h]
  rw [show nm.data.toList ++ 61 :: ad.data.toList = (nm.data.toList ++ [61]) ++ ad.data.toList by simp, List.drop_append_of_le_length (by simp), List.drop_of_length_le (by simp), List.nil_append]
theorem mark_yes {s nm ad : ByteArray} (h : s.data.toList = nm.data.toList ++ 61 :: ad.data.toList ++ markL) : 14 ≤ s.size ∧ ((s.extract (s.size - 14) s.size).toList == [32, 40, 99, 97, 116, 99, 104, 105, 110, 103, 32, 117, 112, 41]) = true ∧ (s.extract 0 (s.size - 14)).data.toList = nm.data.toList ++ 61 :: ad.data.toList := by
  have hl := congrArg List.length h
  simp [markL] at hl
  refine ⟨by omega, ?_, ?_⟩
  · rw [beq_iff_eq, ByteArray.toList_eq, ext_data, List.take_of_length_le (by simp), h, List.drop_append_of_le_length (by simp; omega), List.drop_of_length_le (by simp; omega)]
    rfl
  · rw [ext_data, h, List.drop_zero, List.take_append_of_le_length (by simp; omega), List.take_of_length_le (by simp; omega)]
theorem mark_no {s nm ad : ByteArray} (h : s.data.toList = nm.data.toList ++ 61 :: ad.data.toList) (h1 : hasSep nm = false) (h2 : hasSep ad = false) : ((s.extract (s.size - 14) s.size).toList == [32, 40, 99, 97, 116, 99, 104, 105, 110, 103, 32, 117, 112, 41]) = false := by
  rw [beq_eq_false_iff_ne, ByteArray.toList_eq, ext_data]
  intro e
  have hm : (40 : UInt8) ∈ s.data.toList := by
    have : (40 : UInt8) ∈ (List.take s.size s.data.toList).drop (s.size - 14) := by rw [e]; decide
    exact List.mem_of_mem_take (List.mem_of_mem_drop this)
  rw [h] at hm
  unfold hasSep at h1 h2
  rw [List.any_eq_false] at h1 h2
  rcases List.mem_append.1 hm with hx | hx
  · exact h1 _ hx (by decide)
  · rcases List.mem_cons.1 hx with hx | hx
    · exact absurd hx (by decide)
    · exact h2 _ hx (by decide)
set_option maxHeartbeats 1000000 in
theorem entry_any (s nm ad : ByteArray) (c : Bool) (w : World) (hs : s.data.toList = nm.data.toList ++ 61 :: ad.data.toList ++ if c then markL else []) (h1 : hasSep nm = false) (h2 : hasSep ad = false) (hsz : s.size ≤ 4194304) :
    Calls Try.prog 11 #[.string s] w fun e w' => e = .returned (.tuple #[.agg #[.string nm, .string ad, .bool c], .bool true]) ∧ Below w.heap.size w w' := by
  have H1 := hid h1
  have H2 := hid h2
  clear h1 h2
  cases c with
  | true =>
    rw [if_pos rfl] at hs
    obtain ⟨h14, hmk, hu⟩ := mark_yes hs
    have h14' : (14 : Int) ≤ (s.size : Int) := by omega
    have hub : (s.extract 0 (s.size - 14)).size ≤ 4194304 := by simp; omega
    have HU := hid hu
    clear hs hu
    go_enter Try.func11, Try.ntmps11
    go_wp2
    generalize s.extract 0 (s.size - 14) = u at *
    have hus := hid (U_size HU.out)
    go_loop [5, 6] (fun e i => e = .int .i64 (-1) ∧ ∃ k : Nat, k ≤ nm.size ∧ i = .int .i64 k) (fun _ i => nm.size + 1 - (intOf i).toNat)
    case atStart => exact ⟨rfl, 0, Nat.zero_le _, rfl⟩
    case round =>
      obtain ⟨rfl, k, hk, rfl⟩ := hrel
      have hku : k < u.size := by have := hus.out; omega
      go_wp2
      · have hkn : k = nm.size := U_found HU.out H1.out hku hk ‹_›
        subst hkn
        have e1 : u.extract 0 nm.size = nm := U_left HU.out
        have e2 : u.extract (nm.size + 1) u.size = ad := U_right HU.out
        go_region
        go_wp2
        exact bodyPost_ret (v := .tuple #[.agg #[.string nm, .string ad, .bool true], .bool true]) (by simp [results, Try.results11, go_sem]) rfl ⟨rfl, by repeat (first | exact Below.refl _ _ | apply Below.drew | refine Below.alloc ?_ (by simp) _)⟩
      · have hkn : k < nm.size := U_miss HU.out hku hk ‹_›
        go_round
        case rel => exact ⟨rfl, k + 1, by omega, by go_num⟩
        case measure => simp [intOf]; omega
  | false =>
    rw [if_neg (by decide), List.append_nil] at hs
    have HU := hid hs
    by_cases h14 : 14 ≤ s.size
    · have hmk := mark_no hs H1.out H2.out
      have h14' : (14 : Int) ≤ (s.size : Int) := by omega
      clear hs
      go_enter Try.func11, Try.ntmps11
      go_wp2
      have hus := hid (U_size HU.out)
      go_loop [5, 6] (fun e i => e = .int .i64 (-1) ∧ ∃ k : Nat, k ≤ nm.size ∧ i = .int .i64 k) (fun _ i => nm.size + 1 - (intOf i).toNat)
      case atStart => exact ⟨rfl, 0, Nat.zero_le _, rfl⟩
      case round =>
        obtain ⟨rfl, k, hk, rfl⟩ := hrel
        have hku : k < s.size := by have := hus.out; omega
        go_wp2
        · have hkn : k = nm.size := U_found HU.out H1.out hku hk ‹_›
          subst hkn
          have e1 : s.extract 0 nm.size = nm := U_left HU.out
          have e2 : s.extract (nm.size + 1) s.size = ad := U_right HU.out
          go_region
          go_wp2
          exact bodyPost_ret (v := .tuple #[.agg #[.string nm, .string ad, .bool false], .bool true]) (by simp [results, Try.results11, go_sem]) rfl ⟨rfl, by repeat (first | exact Below.refl _ _ | apply Below.drew | refine Below.alloc ?_ (by simp) _)⟩
        · have hkn : k < nm.size := U_miss HU.out hku hk ‹_›
          go_round
          case rel => exact ⟨rfl, k + 1, by omega, by go_num⟩
          case measure => simp [intOf]; omega
    · have hd : decide ((14 : Int) ≤ (s.size : Int)) = false := by simp; omega
      clear hs
      go_enter Try.func11, Try.ntmps11
      go_wp2
      have hus := hid (U_size HU.out)
      go_loop [5, 6] (fun e i => e = .int .i64 (-1) ∧ ∃ k : Nat, k ≤ nm.size ∧ i = .int .i64 k) (fun _ i => nm.size + 1 - (intOf i).toNat)
      case atStart => exact ⟨rfl, 0, Nat.zero_le _, rfl⟩
      case round =>
        obtain ⟨rfl, k, hk, rfl⟩ := hrel
        have hku : k < s.size := by have := hus.out; omega
        go_wp2
        · have hkn : k = nm.size := U_found HU.out H1.out hku hk ‹_›
          subst hkn
          have e1 : s.extract 0 nm.size = nm := U_left HU.out
          have e2 : s.extract (nm.size + 1) s.size = ad := U_right HU.out
          go_region
          go_wp2
          exact bodyPost_ret (v := .tuple #[.agg #[.string nm, .string ad, .bool false], .bool true]) (by simp [results, Try.results11, go_sem]) rfl ⟨rfl, by repeat (first | exact Below.refl _ _ | apply Below.drew | refine Below.alloc ?_ (by simp) _)⟩
        · have hkn : k < nm.size := U_miss HU.out hku hk ‹_›
          go_round
          case rel => exact ⟨rfl, k + 1, by omega, by go_num⟩
          case measure => simp [intOf]; omega
end Go.Proofs.Qxb6604347a
