import Derived.Test.Qxb6604347aW4
namespace Go.Proofs.Qxb6604347a
open Go.RowKit
theorem joinTail_cons (sep z : List UInt8) (r : List (List UInt8)) : Lib.joinTail sep (z :: r) = sep ++ (z ++ Lib.joinTail sep r) := by
  simp [Lib.joinTail]
theorem join_split (sep x : List UInt8) (R : List (List UInt8)) : ∀ L : List (List UInt8), Lib.join (L ++ x :: R) sep = (L.flatMap fun y => y ++ sep) ++ (x ++ Lib.joinTail sep R)
  | [] => by simp [Lib.join_cons]
  | y :: L => by
    have ih := join_split sep x R L
    rw [List.cons_append, Lib.join_cons, List.flatMap_cons, List.append_assoc, List.append_assoc, ← ih]
    congr 1
    cases L with
    | nil => rw [List.nil_append, joinTail_cons, Lib.join_cons]
    | cons z L => rw [List.cons_append, joinTail_cons, Lib.join_cons]
/-- What stands ahead of entry k. -/
def pre (N A : Nat → ByteArray) (C : Nat → Bool) (k : Nat) : List UInt8 := (List.range k).flatMap fun i => entL N A C i ++ [44, 32]
/-- Where entry k begins. -/
def off (N A : Nat → ByteArray) (C : Nat → Bool) (k : Nat) : Nat := (pre N A C k).length
/-- How long entry k is. -/
def elen (N A : Nat → ByteArray) (C : Nat → Bool) (k : Nat) : Nat := (entL N A C k).length
theorem off_succ (N A : Nat → ByteArray) (C : Nat → Bool) (k : Nat) : off N A C (k + 1) = off N A C k + elen N A C k + 2 := by
  unfold off pre elen
  rw [List.range_succ, List.flatMap_append]
  simp
  omega
theorem off_le (N A : Nat → ByteArray) (C : Nat → Bool) (n : Nat) (hS : ∀ i, i < n → (N i).size ≤ 1048576 ∧ (A i).size ≤ 1048576) : ∀ k, k ≤ n → off N A C k ≤ k * 2097169
  | 0, _ => by simp [off, pre]
  | k + 1, h => by
    have ih := off_le N A C n hS k (by omega)
    have := hS k (by omega)
    have := entL_length N A C k this.1 this.2
    rw [off_succ]
    unfold elen
    omega
theorem txt_split (N A : Nat → ByteArray) (C : Nat → Bool) (n k : Nat) (hk : k < n) : ∃ t, txt N A C n = pre N A C k ++ (entL N A C k ++ t) ∧ ((k + 1 = n ∧ t = []) ∨ (k + 1 < n ∧ ∃ u, t = 44 :: 32 :: u)) := by
  unfold txt pre
  have e : (List.range n).map (entL N A C) = (List.range k).map (entL N A C) ++ entL N A C k :: ((List.range n).map (entL N A C)).drop (k + 1) := by
    refine (List.take_append_drop k ((List.range n).map (entL N A C))).symm.trans ?_
    congr 1
    · rw [← List.map_take, List.take_range, Nat.min_eq_left (by omega)]
    · rw [List.drop_eq_getElem_cons (by simpa using hk)]
      simp
  rw [e, join_split]
  refine ⟨Lib.joinTail [44, 32] (((List.range n).map (entL N A C)).drop (k + 1)), ?_, ?_⟩
  · rw [List.flatMap_map]
  · by_cases h : k + 1 = n
    · exact .inl ⟨h, by rw [List.drop_of_length_le (by simp; omega)]; rfl⟩
    · refine .inr ⟨by omega, ?_⟩
      rw [List.drop_eq_getElem_cons (by simp; omega), joinTail_cons]
      exact ⟨_, rfl⟩
theorem entL_no44 (N A : Nat → ByteArray) (C : Nat → Bool) (k : Nat) (h1 : hasSep (N k) = false) (h2 : hasSep (A k) = false) : ∀ b ∈ entL N A C k, b ≠ 44 := by
  intro b hb e
  subst e
  unfold hasSep at h1 h2
  rw [List.any_eq_false] at h1 h2
  unfold entL at hb
  rcases List.mem_append.1 hb with hx | hx
  · rcases List.mem_append.1 hx with hx | hx
    · exact h1 _ hx (by decide)
    · rcases List.mem_cons.1 hx with hx | hx
      · exact absurd hx (by decide)
      · exact h2 _ hx (by decide)
  · cases hc : C k
    · rw [hc] at hx; simp at hx
    · rw [hc] at hx; exact absurd hx (by decide)
/-- What the walk of the text needs at entry k. -/
structure At (s : ByteArray) (N A : Nat → ByteArray) (C : Nat → Bool) (n k : Nat) : Prop where
  fit : off N A C k + elen N A C k ≤ s.size
  inner : ∀ j (hj : off N A C k + j < s.size), j < elen N A C k → ¬ (s[off N A C k + j].toNat : Int) = 44
  last : k + 1 = n → off N A C k + elen N A C k = s.size
  more : k + 1 < n → off N A C k + elen N A C k + 1 < s.size
  comma : k + 1 < n → ∀ (hj : off N A C k + elen N A C k < s.size), (s[off N A C k + elen N A C k].toNat : Int) = 44
  blank : k + 1 < n → ∀ (hj : off N A C k + elen N A C k + 1 < s.size), (s[off N A C k + elen N A C k + 1].toNat : Int) = 32
  cut : (s.extract (off N A C k) (off N A C k + elen N A C k)).data.toList = entL N A C k
theorem at_of {s : ByteArray} {N A : Nat → ByteArray} {C : Nat → Bool} {n k : Nat} (hs : s.data.toList = txt N A C n) (hk : k < n) (h1 : hasSep (N k) = false) (h2 : hasSep (A k) = false) : At s N A C n k := by
  obtain ⟨t, e, ht⟩ := txt_split N A C n k hk
  rw [e] at hs
  have hl : s.size = off N A C k + (elen N A C k + t.length) := by
    have := congrArg List.length hs
    simp only [List.length_append] at this
    simpa [off, elen] using this
  have hget : ∀ j (hj : off N A C k + j < s.size), (entL N A C k ++ t)[j]? = some s[off N A C k + j] := by
    intro j hj
    have := U_get hs hj
    rw [List.getElem?_append_right (by unfold off; omega)] at this
    simpa [off] using this
  refine ⟨by omega, ?_, ?_, ?_, ?_, ?_, ?_⟩
  · intro j hj hje hb
    have h := hget j hj
    rw [List.getElem?_append_left hje] at h
    have := entL_no44 N A C k h1 h2 _ (List.mem_of_getElem? h)
    apply this
    apply UInt8.toNat_inj.1
    simpa using (by omega : (s[off N A C k + j]).toNat = 44)
  · intro h
    rcases ht with ⟨_, rfl⟩ | ⟨h', _⟩
    · simpa using hl.symm
    · omega
  · intro h
    rcases ht with ⟨h', _⟩ | ⟨_, u, rfl⟩
    · omega
    · simp only [List.length_cons] at hl; omega
  · intro h hj
    rcases ht with ⟨h', _⟩ | ⟨_, u, rfl⟩
    · omega
    · have h := hget _ hj
      rw [List.getElem?_append_right (by unfold elen; omega)] at h
      simp [elen] at h
      simp [elen, ← h]
  · intro h hj
    rcases ht with ⟨h', _⟩ | ⟨_, u, rfl⟩
    · omega
    · have h := hget (elen N A C k + 1) hj
      rw [List.getElem?_append_right (by unfold elen; omega)] at h
      simp [elen] at h
      simp [elen, Nat.add_assoc] at h ⊢
      rw [← h]
      rfl
  · rw [ext_data, hs, List.drop_take, List.drop_append_of_le_length (by unfold off; omega), List.drop_of_length_le (by unfold off; omega), List.nil_append]
    rw [show off N A C k + elen N A C k - off N A C k = (entL N A C k).length by unfold elen; omega, List.take_append_of_le_length (Nat.le_refl _), List.take_of_length_le (Nat.le_refl _)]
end Go.Proofs.Qxb6604347a
