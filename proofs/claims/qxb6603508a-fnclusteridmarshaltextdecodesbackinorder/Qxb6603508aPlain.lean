import Derived.Lib.HexFns
namespace Go.Proofs.Qxb6603508a
open Go.Lib
/-- The byte at a place, as a number. -/
def atI (l : List UInt8) (k : Nat) : Int := ((l[k]?.getD 0).toNat : Int)
theorem atI_bd (l : List UInt8) (k : Nat) : 0 ≤ atI l k ∧ atI l k < 256 := by
  unfold atI
  have := (l[k]?.getD 0).toNat_lt
  omega
theorem atI_get (l : List UInt8) (k : Nat) (h : k < l.length) : atI l k = ((l[k]'h).toNat : Int) := by
  simp [atI, h]
/-- The order of two texts of one length, byte by byte. -/
def cmpL : List UInt8 → List UInt8 → Int
  | a :: s, b :: t => if a.toNat < b.toNat then -1 else if b.toNat < a.toNat then 1 else cmpL s t
  | _, _ => 0
theorem cmp_lt (s t : List UInt8) (k : Nat) (hs : k < s.length) (ht : k < t.length) (h : atI s k < atI t k) : cmpL (s.drop k) (t.drop k) = -1 := by
  rw [List.drop_eq_getElem_cons hs, List.drop_eq_getElem_cons ht]
  rw [atI_get s k hs, atI_get t k ht] at h
  unfold cmpL
  rw [if_pos (by omega)]
theorem cmp_gt (s t : List UInt8) (k : Nat) (hs : k < s.length) (ht : k < t.length) (h : atI t k < atI s k) : cmpL (s.drop k) (t.drop k) = 1 := by
  rw [List.drop_eq_getElem_cons hs, List.drop_eq_getElem_cons ht]
  rw [atI_get s k hs, atI_get t k ht] at h
  unfold cmpL
  rw [if_neg (by omega), if_pos (by omega)]
theorem cmp_eq (s t : List UInt8) (k : Nat) (hs : k < s.length) (ht : k < t.length) (h : ¬ atI s k < atI t k) (h' : ¬ atI t k < atI s k) : cmpL (s.drop k) (t.drop k) = cmpL (s.drop (k + 1)) (t.drop (k + 1)) := by
  rw [List.drop_eq_getElem_cons hs, List.drop_eq_getElem_cons ht]
  rw [atI_get s k hs, atI_get t k ht] at h h'
  rw [cmpL, if_neg (by omega), if_neg (by omega)]
theorem cmp_end (s t : List UInt8) (k : Nat) (hs : s.length ≤ k) : cmpL (s.drop k) (t.drop k) = 0 := by
  rw [List.drop_of_length_le hs]
  unfold cmpL
  rfl
/-! the digits -/
theorem dig_val (d : Nat) (h : d < 16) : (48 ≤ (Hx.digit d).toNat ∧ (Hx.digit d).toNat ≤ 57 ∧ (Hx.digit d).toNat = d + 48) ∨ (97 ≤ (Hx.digit d).toNat ∧ (Hx.digit d).toNat ≤ 102 ∧ (Hx.digit d).toNat = d + 87) := by
  have : ∀ d : Fin 16, (48 ≤ (Hx.digit d).toNat ∧ (Hx.digit d).toNat ≤ 57 ∧ (Hx.digit d).toNat = d + 48) ∨ (97 ≤ (Hx.digit d).toNat ∧ (Hx.digit d).toNat ≤ 102 ∧ (Hx.digit d).toNat = d + 87) := by decide +kernel
  exact this ⟨d, h⟩
theorem dig_lt (a b : Nat) (ha : a < 16) (hb : b < 16) : (Hx.digit a).toNat < (Hx.digit b).toNat ↔ a < b := by
  have : ∀ a b : Fin 16, (Hx.digit a).toNat < (Hx.digit b).toNat ↔ (a : Nat) < b := by decide +kernel
  exact this ⟨a, ha⟩ ⟨b, hb⟩
/-- THE PLAIN LAW: the texts stand in the order of the ids. -/
theorem cmp_encode : ∀ (s t : List UInt8), s.length = t.length → cmpL (Hx.encode s) (Hx.encode t) = cmpL s t
  | [], [], _ => rfl
  | a :: s, b :: t, h => by
    have ha := a.toNat_lt
    have hb := b.toNat_lt
    have ih := cmp_encode s t (by simpa using h)
    rw [Hx.encode_cons, Hx.encode_cons]
    simp only [cmpL]
    have h1 := dig_lt (a.toNat / 16) (b.toNat / 16) (by omega) (by omega)
    have h2 := dig_lt (b.toNat / 16) (a.toNat / 16) (by omega) (by omega)
    have h3 := dig_lt (a.toNat % 16) (b.toNat % 16) (by omega) (by omega)
    have h4 := dig_lt (b.toNat % 16) (a.toNat % 16) (by omega) (by omega)
    rw [ih]
    by_cases c1 : a.toNat < b.toNat
    · rw [if_pos c1]
      by_cases c2 : a.toNat / 16 < b.toNat / 16
      · rw [if_pos (h1.2 c2)]
      · rw [if_neg (fun x => c2 (h1.1 x)), if_neg (fun x => absurd (h2.1 x) (by omega)), if_pos (h3.2 (by omega))]
    · rw [if_neg c1]
      by_cases c3 : b.toNat < a.toNat
      · rw [if_pos c3]
        rw [if_neg (fun x => absurd (h1.1 x) (by omega))]
        by_cases c2 : b.toNat / 16 < a.toNat / 16
        · rw [if_pos (h2.2 c2)]
        · rw [if_neg (fun x => c2 (h2.1 x)), if_neg (fun x => absurd (h3.1 x) (by omega)), if_pos (h4.2 (by omega))]
      · rw [if_neg c3, if_neg (fun x => absurd (h1.1 x) (by omega)), if_neg (fun x => absurd (h2.1 x) (by omega)), if_neg (fun x => absurd (h3.1 x) (by omega)), if_neg (fun x => absurd (h4.1 x) (by omega))]
  | [], _ :: _, h => by simp at h
  | _ :: _, [], h => by simp at h
end Go.Proofs.Qxb6603508a
