import Derived.Test.Qxb6604661aRows
import Derived.WalkKit
import Derived.WalkSpells
import Derived.WalkLawsBesides
namespace Go.Proofs.Qxb6604661a
open Go.RowKit
theorem hid {p : Prop} (h : p) : Hid p := h
/-- The first column, and the rest of the list. -/
def firstL : List UInt8 := [101, 118, 101, 110, 116, 95, 105, 100, 58, 58, 116, 101, 120, 116, 44, 32]
def restL : List UInt8 := [44, 32, 101, 118, 101, 110, 116, 95, 116, 121, 112, 101, 44, 32, 97, 103, 103, 114, 101, 103, 97, 116, 101, 95, 116, 121, 112, 101, 44, 32, 97, 103, 103, 114, 101, 103, 97, 116, 101, 95, 105, 100, 44, 32, 97, 103, 103, 114, 101, 103, 97, 116, 101, 95, 118, 101, 114, 115, 105, 111, 110, 44, 10, 9, 9, 97, 116, 116, 101, 109, 112, 116, 115, 44, 32, 99, 111, 97, 108, 101, 115, 99, 101, 40, 108, 97, 115, 116, 95, 101, 114, 114, 111, 114, 95, 109, 101, 115, 115, 97, 103, 101, 44, 32, 39, 39, 41, 44, 32, 108, 97, 115, 116, 95, 97, 116, 116, 101, 109, 112, 116, 95, 97, 116]
/-- What deadColumns returns. -/
def dcL (h : List UInt8) : List UInt8 := firstL ++ h ++ restL
def dc (h : ByteArray) : ByteArray := ⟨(dcL h.data.toList).toArray⟩
theorem ba_ext {a b : ByteArray} (h : a.data.toList = b.data.toList) : a = b := by
  obtain ⟨⟨x⟩⟩ := a
  obtain ⟨⟨y⟩⟩ := b
  simp at h
  subst h
  rfl
theorem ret_str {a b : ByteArray} (h : a = b) : Ending.returned (.string a) = .returned (.string b) := by rw [h]
set_option maxHeartbeats 400000 in
theorem dead_any (h : ByteArray) (hs : h.size ≤ 1048576) (w : World) : Calls Try.prog 10 #[.string h] w fun e w' => e = .returned (.string (dc h)) ∧ w' = w := by
  go_enter Try.func10, Try.ntmps10
  go_wp2
  go_ret
  refine ⟨ret_str (ba_ext ?_), rfl⟩
  simp only [ByteArray.data_append, Array.toList_append]
  rfl
set_option maxHeartbeats 400000 in
theorem zz_any (h : ByteArray) (hs : h.size ≤ 1048576) (w : World) : Calls Try.prog 6 #[.string h] w fun e w' => e = .returned (.string (dc h)) ∧ w' = w := by
  go_enter Try.func6, Try.ntmps6
  go_wp2_with fail
  refine (dead_any h hs w).mono ?_
  rintro e w1 ⟨rfl, rfl⟩
  go_wp2
  go_ret
  exact ⟨rfl, rfl⟩
set_option maxHeartbeats 400000 in
theorem bytes2_yes (a b : ByteArray) (h : a.size + b.size ≤ 1048576) (w : World) : Calls Try.prog 9 #[.string a, .string b] w fun e w' => e = .returned (.bool true) ∧ w' = w := by
  go_enter Try.func9, Try.ntmps9
  go_wp2
  go_ret
  exact ⟨rfl, rfl⟩
set_option maxHeartbeats 400000 in
theorem bytes2_no (a b : ByteArray) (ha : a.size ≤ maxLen) (hb : b.size ≤ maxLen) (h : ¬ a.size + b.size ≤ 1048576) (w : World) : Calls Try.prog 9 #[.string a, .string b] w fun e w' => e = .returned (.bool false) ∧ w' = w := by
  unfold maxLen at ha hb
  by_cases h1 : (1048576 : Int) < (a.size : Int)
  · go_enter Try.func9, Try.ntmps9
    go_wp2
    go_ret
    exact ⟨rfl, rfl⟩
  · by_cases h2 : (1048576 : Int) < (b.size : Int)
    · go_enter Try.func9, Try.ntmps9
      go_wp2
      go_ret
      exact ⟨rfl, rfl⟩
    · have h3 : (1048576 : Int) < (a.size : Int) + (b.size : Int) := by omega
      go_enter Try.func9, Try.ntmps9
      go_wp2
      go_ret
      exact ⟨rfl, rfl⟩
theorem dc_size (h : ByteArray) : (dc h).size = 16 + h.size + 124 := by
  show (dcL h.data.toList).toArray.size = _
  simp [dcL, firstL, restL]
  omega
theorem same_dc (a R0 : ByteArray) (h : R0.data.toList = restL) : ((dc a).toList == ((⟨#[101, 118, 101, 110, 116, 95, 105, 100, 58, 58, 116, 101, 120, 116, 44, 32]⟩ : ByteArray) ++ a ++ R0).toList) = true := by
  rw [beq_iff_eq, ByteArray.toList_eq, ByteArray.toList_eq]
  simp only [ByteArray.data_append, Array.toList_append, h]
  rfl
theorem dc_inj (a b : ByteArray) : (((dc a).toList == (dc b).toList) == (a.toList == b.toList)) = true := by
  rw [beq_iff_eq, Bool.eq_iff_iff, beq_iff_eq, beq_iff_eq, ByteArray.toList_eq, ByteArray.toList_eq, ByteArray.toList_eq, ByteArray.toList_eq]
  show dcL a.data.toList = dcL b.data.toList ↔ _
  unfold dcL
  rw [List.append_left_inj, List.append_right_inj]
set_option maxHeartbeats 1000000 in
theorem walk4 (a b : ByteArray) (ha : a.size ≤ maxLen) (hb : b.size ≤ maxLen) (w : World) :
    Calls Try.prog 4 #[.string a, .string b] w fun e w' => e = .returned (.bool true) ∧ Grown w w' := by
  by_cases h : a.size + b.size ≤ 1048576
  · by_cases h1 : (524288 : Int) < (a.size : Int)
    · go_enter Try.func4, Try.ntmps4
      go_wp2_with fail
      refine (bytes2_yes a b h w).mono ?_
      rintro e w1 ⟨rfl, rfl⟩
      go_wp2
      go_ret
      exact ⟨rfl, Grown.refl _⟩
    by_cases h2 : (524288 : Int) < (b.size : Int)
    · go_enter Try.func4, Try.ntmps4
      go_wp2_with fail
      refine (bytes2_yes a b h w).mono ?_
      rintro e w1 ⟨rfl, rfl⟩
      go_wp2
      go_ret
      exact ⟨rfl, Grown.refl _⟩
    go_enter Try.func4, Try.ntmps4
    go_wp2_with fail
    refine (bytes2_yes a b h w).mono ?_
    rintro e w1 ⟨rfl, rfl⟩
    go_wp2_with fail
    refine (zz_any ⟨#[]⟩ (by decide) _).mono ?_
    rintro e w1 ⟨rfl, rfl⟩
    obtain ⟨E, hE⟩ : ∃ E, E = dc ⟨#[]⟩ := ⟨_, rfl⟩
    rw [← hE]
    have hs : E.size = 140 := by rw [hE, dc_size]; rfl
    have HS := hid hs
    have hs' : (16 : Int) < (E.size : Int) := by omega
    have HE := hid hE
    have hpre : ((E.extract 0 16).toList == [101, 118, 101, 110, 116, 95, 105, 100, 58, 58, 116, 101, 120, 116, 44, 32]) = true := by rw [hE]; decide +kernel
    obtain ⟨R0, hR⟩ : ∃ R0, R0 = E.extract 16 E.size := ⟨_, rfl⟩
    have hRd : R0.data.toList = restL := by rw [hR, hE]; decide +kernel
    have HRD := hid hRd
    have hrs : R0.size = 124 := by have := congrArg List.length hRd; simpa [restL] using this
    have HR := hid hR
    have hrs' : R0.size ≤ 124 := by omega
    clear hE hs hRd hR hrs
    go_wp2_with fail
    rw [← HR.out]
    refine (zz_any a (by omega) _).mono ?_
    rintro e w1 ⟨rfl, rfl⟩
    obtain ⟨DA, hDA⟩ : ∃ DA, DA = dc a := ⟨_, rfl⟩
    rw [← hDA]
    have HDA := hid hDA
    clear hDA
    go_wp2_with fail
    refine (zz_any b (by omega) _).mono ?_
    rintro e w1 ⟨rfl, rfl⟩
    obtain ⟨DB, hDB⟩ : ∃ DB, DB = dc b := ⟨_, rfl⟩
    rw [← hDB]
    have HDB := hid hDB
    clear hDB
    have qa : (DA.toList == ((⟨#[101, 118, 101, 110, 116, 95, 105, 100, 58, 58, 116, 101, 120, 116, 44, 32]⟩ : ByteArray) ++ a ++ R0).toList) = true := by rw [HDA.out]; exact same_dc a R0 HRD.out
    have qb : (DB.toList == ((⟨#[101, 118, 101, 110, 116, 95, 105, 100, 58, 58, 116, 101, 120, 116, 44, 32]⟩ : ByteArray) ++ b ++ R0).toList) = true := by rw [HDB.out]; exact same_dc b R0 HRD.out
    have qc : ((DA.toList == DB.toList) == (a.toList == b.toList)) = true := by rw [HDA.out, HDB.out]; exact dc_inj a b
    go_wp2
    go_ret
    exact ⟨rfl, Grown.refl _⟩
  · go_enter Try.func4, Try.ntmps4
    go_wp2_with fail
    refine (bytes2_no a b ha hb h w).mono ?_
    rintro e w1 ⟨rfl, rfl⟩
    go_wp2
    go_ret
    exact ⟨rfl, Grown.refl _⟩
end Go.Proofs.Qxb6604661a
