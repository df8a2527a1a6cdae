import Derived.Test.Qxb6604661aW2
namespace Go.Proofs.Qxb6604661a
open Go.RowKit
def colB (n : Nat) (h : ByteArray) : ByteArray := ⟨(colL n h.data.toList).toArray⟩
set_option maxHeartbeats 400000 in
theorem col_0 (h : ByteArray) (w : World) : Calls Try.prog 8 #[.int .i64 0, .string h] w fun e w' => e = .returned (.string (colB 0 h)) ∧ w' = w := by
  go_enter Try.func8, Try.ntmps8
  go_wp2
  go_ret
  exact ⟨rfl, rfl⟩
set_option maxHeartbeats 400000 in
theorem col_1 (h : ByteArray) (hs : h.size ≤ 4194304) (w : World) : Calls Try.prog 8 #[.int .i64 1, .string h] w fun e w' => e = .returned (.string (colB 1 h)) ∧ w' = w := by
  go_enter Try.func8, Try.ntmps8
  go_wp2_with fail
  refine (trim_any h hs _).mono ?_
  rintro e w1 ⟨rfl, rfl⟩
  go_wp2
  go_ret
  exact ⟨rfl, rfl⟩
set_option maxHeartbeats 400000 in
theorem col_2 (h : ByteArray) (w : World) : Calls Try.prog 8 #[.int .i64 2, .string h] w fun e w' => e = .returned (.string (colB 2 h)) ∧ w' = w := by
  go_enter Try.func8, Try.ntmps8
  go_wp2
  go_ret
  exact ⟨rfl, rfl⟩
set_option maxHeartbeats 400000 in
theorem col_3 (h : ByteArray) (w : World) : Calls Try.prog 8 #[.int .i64 3, .string h] w fun e w' => e = .returned (.string (colB 3 h)) ∧ w' = w := by
  go_enter Try.func8, Try.ntmps8
  go_wp2
  go_ret
  exact ⟨rfl, rfl⟩
set_option maxHeartbeats 400000 in
theorem col_4 (h : ByteArray) (w : World) : Calls Try.prog 8 #[.int .i64 4, .string h] w fun e w' => e = .returned (.string (colB 4 h)) ∧ w' = w := by
  go_enter Try.func8, Try.ntmps8
  go_wp2
  go_ret
  exact ⟨rfl, rfl⟩
set_option maxHeartbeats 400000 in
theorem col_5 (h : ByteArray) (w : World) : Calls Try.prog 8 #[.int .i64 5, .string h] w fun e w' => e = .returned (.string (colB 5 h)) ∧ w' = w := by
  go_enter Try.func8, Try.ntmps8
  go_wp2
  go_ret
  exact ⟨rfl, rfl⟩
set_option maxHeartbeats 400000 in
theorem col_6 (h : ByteArray) (w : World) : Calls Try.prog 8 #[.int .i64 6, .string h] w fun e w' => e = .returned (.string (colB 6 h)) ∧ w' = w := by
  go_enter Try.func8, Try.ntmps8
  go_wp2
  go_ret
  exact ⟨rfl, rfl⟩
set_option maxHeartbeats 400000 in
theorem col_7 (h : ByteArray) (w : World) : Calls Try.prog 8 #[.int .i64 7, .string h] w fun e w' => e = .returned (.string (colB 7 h)) ∧ w' = w := by
  go_enter Try.func8, Try.ntmps8
  go_wp2
  go_ret
  exact ⟨rfl, rfl⟩
set_option maxHeartbeats 400000 in
theorem col_8 (h : ByteArray) (w : World) : Calls Try.prog 8 #[.int .i64 8, .string h] w fun e w' => e = .returned (.string (colB 8 h)) ∧ w' = w := by
  go_enter Try.func8, Try.ntmps8
  go_wp2
  go_ret
  exact ⟨rfl, rfl⟩
theorem col_any (n : Nat) (hn : n ≤ 8) (h : ByteArray) (hs : h.size ≤ 4194304) (w : World) : Calls Try.prog 8 #[.int .i64 (n : Int), .string h] w fun e w' => e = .returned (.string (colB n h)) ∧ w' = w := by
  match n, hn with
  | 0, _ => exact col_0 h w
  | 1, _ => exact col_1 h hs w
  | 2, _ => exact col_2 h w
  | 3, _ => exact col_3 h w
  | 4, _ => exact col_4 h w
  | 5, _ => exact col_5 h w
  | 6, _ => exact col_6 h w
  | 7, _ => exact col_7 h w
  | 8, _ => exact col_8 h w
  | n + 9, hn => omega
set_option maxHeartbeats 400000 in
theorem bytes1_yes (a : ByteArray) (h : a.size ≤ 1048576) (w : World) : Calls Try.prog 5 #[.string a] w fun e w' => e = .returned (.bool true) ∧ w' = w := by
  go_enter Try.func5, Try.ntmps5
  go_wp2
  go_ret
  exact ⟨rfl, rfl⟩
set_option maxHeartbeats 400000 in
theorem bytes1_no (a : ByteArray) (ha : a.size ≤ maxLen) (h : ¬ a.size ≤ 1048576) (w : World) : Calls Try.prog 5 #[.string a] w fun e w' => e = .returned (.bool false) ∧ w' = w := by
  unfold maxLen at ha
  have h' : (1048576 : Int) < (a.size : Int) := by omega
  go_enter Try.func5, Try.ntmps5
  go_wp2
  go_ret
  exact ⟨rfl, rfl⟩
/-- A byte that the holder may not bear. -/
def isBad (c : UInt8) : Bool := c == 44 || c == 40 || c == 41
theorem isBad_iff {b : UInt8} : isBad b = true ↔ (b.toNat : Int) = 44 ∨ (b.toNat : Int) = 40 ∨ (b.toNat : Int) = 41 := by
  unfold isBad
  simp only [Bool.or_eq_true, beq_iff_eq, ← UInt8.toNat_inj]
  have e1 : (44 : UInt8).toNat = 44 := rfl
  have e2 : (40 : UInt8).toNat = 40 := rfl
  have e3 : (41 : UInt8).toNat = 41 := rfl
  rw [e1, e2, e3]
  omega
theorem isBad_not {b : UInt8} (h : (((b.toNat : Int) == 44) = false ∧ ((b.toNat : Int) == 40) = false) ∧ ((b.toNat : Int) == 41) = false) : isBad b = false := by
  simp only [beq_eq_false_iff_ne, ne_eq] at h
  rw [← Bool.not_eq_true, isBad_iff]
  omega
theorem clean_of {h : ByteArray} (hall : ∀ j (hj : j < h.size), isBad h[j] = false) : ∀ c ∈ h.data.toList, c ≠ 44 ∧ c ≠ 40 ∧ c ≠ 41 := by
  intro c hc
  obtain ⟨j, hj⟩ := List.mem_iff_getElem?.1 hc
  obtain ⟨hj', rfl⟩ := get_list hj
  have := hall j hj'
  refine ⟨fun e => ?_, fun e => ?_, fun e => ?_⟩ <;> (rw [e] at this; revert this; decide)
theorem dcL_len_of {D h : ByteArray} (hD : D.data.toList = dcL h.data.toList) : (dcL h.data.toList).length = D.size := by
  rw [← hD]; simp
theorem at_D {D h : ByteArray} (hD : D.data.toList = dcL h.data.toList) {i : Nat} (hi : i < D.size) : (dcL h.data.toList)[i]? = some D[i] := by
  rw [← hD, ByteArray.getElem_eq_getElem_data]
  simp
theorem st_open {D h : ByteArray} (hD : D.data.toList = dcL h.data.toList) {i N S : Nat} {P : Int} (hi : i < D.size) (hst : st (dcL h.data.toList) i = (N, S, P)) : st (dcL h.data.toList) (i + 1) = step (N, S, P) i D[i] := by
  rw [st_succ _ i _ (at_D hD hi), hst]
theorem byte_eq {c : UInt8} {n : Nat} (hn : n < 256) (h : (c.toNat : Int) = n) : c = UInt8.ofNat n := by
  apply UInt8.toNat_inj.1
  rw [UInt8.toNat_ofNat']
  omega
theorem at44 {D h : ByteArray} (hD : D.data.toList = dcL h.data.toList) {i N S : Nat} (hi : i < D.size) (hst : st (dcL h.data.toList) i = (N, S, 0)) (h44 : (D[i].toNat : Int) = 44) : (dcL h.data.toList)[i]? = some 44 ∧ (st (dcL h.data.toList) i).2.2 = 0 := by
  refine ⟨?_, by rw [hst]⟩
  rw [at_D hD hi, byte_eq (n := 44) (by omega) h44]
  rfl
theorem seg_eq {D h : ByteArray} (hD : D.data.toList = dcL h.data.toList) {i N S : Nat} {P : Int} (hst : st (dcL h.data.toList) i = (N, S, P)) (hs : trimL (((dcL h.data.toList).take i).drop (st (dcL h.data.toList) i).2.1) = colL (st (dcL h.data.toList) i).1 h.data.toList) : trimB (D.extract S i) = colB N h := by
  rw [hst] at hs
  unfold trimB colB
  rw [ext_data, hD, hs]
theorem ext_size (D : ByteArray) (S i : Nat) (h : D.size ≤ 1048716) : (D.extract S i).size ≤ 4194304 := by
  simp; omega
theorem step44 {c : UInt8} {N S i : Nat} (h : (c.toNat : Int) = 44) : step (N, S, 0) i c = (N + 1, i + 1, 0) := by
  rw [byte_eq (n := 44) (by omega) h]
  unfold step
  rw [if_pos ⟨rfl, rfl⟩]
theorem step44d {c : UInt8} {N S i : Nat} (h : (c.toNat : Int) = 44) : step (N, S, 1) i c = (N, S, 1) := by
  rw [byte_eq (n := 44) (by omega) h]
  unfold step
  rw [if_neg (fun e => by have h1 : (1 : Int) = 0 := e.2; omega), if_neg (by decide), if_neg (by decide)]
theorem step40 {c : UInt8} {N S i : Nat} {P : Int} (h : ((c.toNat : Int) == 40) = true) : step (N, S, P) i c = (N, S, P + 1) := by
  rw [byte_eq (c := c) (n := 40) (by omega) (by simpa using h)]
  unfold step
  rw [if_neg (fun e => absurd e.1 (by decide)), if_pos (by decide)]
theorem step41 {c : UInt8} {N S i : Nat} {P : Int} (h : ((c.toNat : Int) == 41) = true) : step (N, S, P) i c = (N, S, P - 1) := by
  rw [byte_eq (c := c) (n := 41) (by omega) (by simpa using h)]
  unfold step
  rw [if_neg (fun e => absurd e.1 (by decide)), if_neg (by decide), if_pos (by decide)]
theorem stepNo {c : UInt8} {N S i : Nat} {P : Int} (h1 : ¬ (c.toNat : Int) = 44) (h2 : ((c.toNat : Int) == 40) = false) (h3 : ((c.toNat : Int) == 41) = false) : step (N, S, P) i c = (N, S, P) := by
  unfold step
  rw [if_neg (fun e => h1 (by rw [e.1]; rfl)), if_neg (fun e => by rw [e] at h2; revert h2; decide), if_neg (fun e => by rw [e] at h3; revert h3; decide)]
set_option maxHeartbeats 1000000 in
theorem walk3 (h : ByteArray) (hm : h.size ≤ maxLen) (w : World) :
    Calls Try.prog 3 #[.string h] w fun e w' => e = .returned (.bool true) ∧ Grown w w' := by
  by_cases hs : h.size ≤ 1048576
  · have hs' : ¬ (1048576 : Int) < (h.size : Int) := by omega
    go_enter Try.func3, Try.ntmps3
    go_wp2_with fail
    refine (bytes1_yes h hs w).mono ?_
    rintro e w1 ⟨rfl, rfl⟩
    go_wp2
    go_loop [3] (fun i => ∃ k : Nat, k ≤ h.size ∧ i = .int .i64 k ∧ Hid (∀ j (hj : j < h.size), j < k → isBad h[j] = false)) (fun i => h.size - (intOf i).toNat)
    case atStart => exact ⟨0, Nat.zero_le _, rfl, fun j hj hh => by omega⟩
    case round =>
      obtain ⟨k, hk, rfl, hall⟩ := hrel
      by_cases hlt : k < h.size
      · go_wp2
        · go_ret
          exact ⟨rfl, Grown.refl _⟩
        · go_ret
          exact ⟨rfl, Grown.refl _⟩
        · go_ret
          exact ⟨rfl, Grown.refl _⟩
        · go_round
          case rel => exact ⟨k + 1, by omega, by go_num, fun j hj hjk => by
            by_cases e : j = k
            · subst e; exact isBad_not ‹_›
            · exact hall.out j hj (by omega)⟩
          case measure => simp [intOf]; omega
      · have HCL := hid (clean_of (h := h) (fun j hj => hall.out j hj (by omega)))
        clear hall
        go_wp2_with fail
        refine (zz_any h hs _).mono ?_
        rintro e w1 ⟨rfl, rfl⟩
        obtain ⟨D, hD⟩ : ∃ D, D = dc h := ⟨_, rfl⟩
        rw [← hD]
        have HDL : Hid (D.data.toList = dcL h.data.toList) := hid (by rw [hD]; rfl)
        have hDs : D.size = 16 + h.size + 124 := by rw [hD, dc_size]
        have hDb : D.size ≤ 1048716 := by omega
        have HLAW : Hid (∀ i, i ≤ D.size → Law (dcL h.data.toList) h.data.toList i) := hid (fun i hi => law h.data.toList HCL.out i (by rw [dcL_len]; simp; omega))
        clear hD hDs
        go_wp2
        go_loop [6, 7, 8, 9] (fun nv sv dv iv => (∃ (i N S : Nat) (P : Int), i ≤ D.size ∧ iv = .int .i64 i ∧ nv = .int .i64 N ∧ sv = .int .i64 S ∧ dv = .int .i64 P ∧ Hid (st (dcL h.data.toList) i = (N, S, P))) ∨ (nv = .int .i64 9 ∧ iv = .int .i64 ((D.size : Int) + 1))) (fun _ _ _ iv => D.size + 2 - (intOf iv).toNat)
        case atStart => exact .inl ⟨0, 0, 0, 0, Nat.zero_le _, rfl, rfl, rfl, rfl, hid rfl⟩
        case round =>
          rcases hrel with ⟨i, N, S, P, hi, rfl, rfl, rfl, rfl, hst⟩ | ⟨rfl, rfl⟩
          · have L := HLAW.out i hi
            have hlo := L.lo
            have hnb := L.nb
            have hd0 := L.d0
            have hd1 := L.d1
            rw [hst.out] at hlo hnb hd0 hd1
            simp only at hlo hnb hd0 hd1
            have HL := hid L
            clear L
            have hi' : (i : Int) ≤ (D.size : Int) := by omega
            by_cases hend : i = D.size
            · have heq : ((i : Int) == (D.size : Int)) = true := by rw [beq_iff_eq]; omega
              have HEND := hid hend
              clear hend
              go_wp2_with fail
              have hseg := hid (seg_eq HDL.out hst.out (HL.out.seg (.inl (by rw [dcL_len_of HDL.out]; exact HEND.out))))
              refine (trim_any _ (ext_size D S i (by omega)) _).mono ?_
              rintro e w2 ⟨rfl, rfl⟩
              rw [hseg.out]
              go_wp2_with fail
              refine (col_any N hnb h (by omega) _).mono ?_
              rintro e w2 ⟨rfl, rfl⟩
              go_wp2
              go_round
              case rel => exact .inr ⟨by rw [show N = 8 by have := HL.out.last (by rw [dcL_len_of HDL.out]; exact HEND.out); rw [hst.out] at this; exact this]; rfl, by rw [HEND.out]⟩
              case measure => have := HEND.out; simp [intOf]; omega
            · have hne : ((i : Int) == (D.size : Int)) = false := by rw [beq_eq_false_iff_ne]; omega
              have hlt2 : (i : Int) < (D.size : Int) := by omega
              rcases (by omega : P = 0 ∨ P = 1) with rfl | rfl
              · have hDi : i < D.size := by omega
                have HN := hid (st_open HDL.out hDi hst.out)
                have HEND := hid hend
                clear hend
                go_wp2_with fail
                · have H44 : Hid ((D[i].toNat : Int) = 44) := hid ‹_›
                  have hseg := hid (seg_eq HDL.out hst.out (HL.out.seg (.inr (at44 HDL.out hDi hst.out H44.out))))
                  refine (trim_any _ (ext_size D S i (by omega)) _).mono ?_
                  rintro e w2 ⟨rfl, rfl⟩
                  rw [hseg.out]
                  go_wp2_with fail
                  refine (col_any N hnb h (by omega) _).mono ?_
                  rintro e w2 ⟨rfl, rfl⟩
                  go_wp2
                  go_round
                  case rel => exact .inl ⟨i + 1, N + 1, i + 1, 0, by omega, by go_num, by go_num, by go_num, rfl, hid (by rw [HN.out, step44 H44.out])⟩
                  case measure => simp [intOf]; omega
                · go_round
                  case rel => exact .inl ⟨i + 1, N, S, 1, by omega, by go_num, rfl, rfl, rfl, hid (by rw [HN.out, step40 (c := D[i]) (by assumption)]; rfl)⟩
                  case measure => simp [intOf]; omega
                · go_round
                  case rel => exact .inl ⟨i + 1, N, S, -1, by omega, by go_num, rfl, rfl, rfl, hid (by rw [HN.out, step41 (c := D[i]) (by assumption)]; rfl)⟩
                  case measure => simp [intOf]; omega
                · go_round
                  case rel => exact .inl ⟨i + 1, N, S, 0, by omega, by go_num, rfl, rfl, rfl, hid (by rw [HN.out, stepNo (c := D[i]) (by assumption) (by assumption) (by assumption)])⟩
                  case measure => simp [intOf]; omega
              · have hDi : i < D.size := by omega
                have HN := hid (st_open HDL.out hDi hst.out)
                have HEND := hid hend
                clear hend
                go_wp2_with fail
                · go_round
                  case rel => exact .inl ⟨i + 1, N, S, 1, by omega, by go_num, rfl, rfl, rfl, hid (by rw [HN.out, step44d (c := D[i]) (by assumption)])⟩
                  case measure => simp [intOf]; omega
                · go_round
                  case rel => exact .inl ⟨i + 1, N, S, 2, by omega, by go_num, rfl, rfl, rfl, hid (by rw [HN.out, step40 (c := D[i]) (by assumption)]; rfl)⟩
                  case measure => simp [intOf]; omega
                · go_round
                  case rel => exact .inl ⟨i + 1, N, S, 0, by omega, by go_num, rfl, rfl, rfl, hid (by rw [HN.out, step41 (c := D[i]) (by assumption)]; rfl)⟩
                  case measure => simp [intOf]; omega
                · go_round
                  case rel => exact .inl ⟨i + 1, N, S, 1, by omega, by go_num, rfl, rfl, rfl, hid (by rw [HN.out, stepNo (c := D[i]) (by assumption) (by assumption) (by assumption)])⟩
                  case measure => simp [intOf]; omega
          · go_wp2
            go_ret
            exact ⟨rfl, Grown.refl _⟩
  · go_enter Try.func3, Try.ntmps3
    go_wp2_with fail
    refine (bytes1_no h hm hs w).mono ?_
    rintro e w1 ⟨rfl, rfl⟩
    go_wp2
    go_ret
    exact ⟨rfl, Grown.refl _⟩
end Go.Proofs.Qxb6604661a
