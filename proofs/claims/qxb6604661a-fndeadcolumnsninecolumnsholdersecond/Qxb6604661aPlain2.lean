import Derived.Test.Qxb6604661aPlain
namespace Go.Proofs.Qxb6604661a
def rest1 : List UInt8 := restL.drop 1
theorem restL_eq : restL = 44 :: rest1 := rfl
theorem rest1_len : rest1.length = 123 := by decide
theorem first_len : firstL.length = 16 := by decide
/-- What holds ahead of place i. -/
structure Law (d h : List UInt8) (i : Nat) : Prop where
  lo : (st d i).2.1 ≤ i
  nb : (st d i).1 ≤ 8
  d0 : 0 ≤ (st d i).2.2
  d1 : (st d i).2.2 ≤ 1
  seg : i = d.length ∨ (d[i]? = some 44 ∧ (st d i).2.2 = 0) → trimL ((d.take i).drop (st d i).2.1) = colL (st d i).1 h
  last : i = d.length → (st d i).1 = 8
/-- The state in the first column. -/
def stA (i : Nat) : Nat × Nat × Int := scan (firstL.take i) 0 (0, 0, 0)
theorem tabA : ∀ i : Fin 16, (stA i).2.1 ≤ i ∧ (stA i).1 ≤ 8 ∧ (stA i).2.2 = 0 ∧ (firstL[i.val]? = some 44 → (stA i).1 = 0 ∧ trimL ((firstL.take i).drop (stA i).2.1) = colL 0 []) := by decide +kernel
/-- The state in the rest, places counted as if the holder were empty. -/
def stC (u : Nat) : Nat × Nat × Int := scan (rest1.take u) 17 (2, 17, 0)
theorem tabC : ∀ u : Fin 124, 17 ≤ (stC u).2.1 ∧ (stC u).2.1 ≤ 17 + u ∧ 2 ≤ (stC u).1 ∧ (stC u).1 ≤ 8 ∧ 0 ≤ (stC u).2.2 ∧ (stC u).2.2 ≤ 1 ∧
    (u.val = 123 ∨ (rest1[u.val]? = some 44 ∧ (stC u).2.2 = 0) → trimL ((rest1.take u).drop ((stC u).2.1 - 17)) = colL (stC u).1 []) ∧ (u.val = 123 → (stC u).1 = 8) := by decide +kernel
theorem stEnd : scan firstL 0 (0, 0, 0) = (1, 15, 0) := by decide +kernel
theorem col_ne (n : Nat) (h : List UInt8) (h2 : 2 ≤ n) : colL n h = colL n [] := by
  unfold colL
  match n, h2 with
  | 2, _ => rfl
  | 3, _ => rfl
  | 4, _ => rfl
  | 5, _ => rfl
  | 6, _ => rfl
  | 7, _ => rfl
  | 8, _ => rfl
  | n + 9, _ => rfl
theorem dcL_len (h : List UInt8) : (dcL h).length = 140 + h.length := by
  unfold dcL
  rw [List.length_append, List.length_append, first_len, restL_eq, List.length_cons, rest1_len]
  omega
theorem law (h : List UInt8) (hh : ∀ c ∈ h, c ≠ 44 ∧ c ≠ 40 ∧ c ≠ 41) (i : Nat) (hi : i ≤ (dcL h).length) : Law (dcL h) h i := by
  have hlen := dcL_len h
  rw [hlen] at hi
  by_cases hA : i < 16
  · have et : (dcL h).take i = firstL.take i := by
      unfold dcL
      rw [List.append_assoc, List.take_append_of_le_length (by rw [first_len]; omega)]
    have es : st (dcL h) i = stA i := by unfold st stA; rw [et]
    have eg : (dcL h)[i]? = firstL[i]? := by
      unfold dcL
      rw [List.append_assoc, List.getElem?_append_left (by rw [first_len]; exact hA)]
    obtain ⟨t1, t2, t3, t4⟩ := tabA ⟨i, hA⟩
    refine ⟨by rw [es]; exact t1, by rw [es]; exact t2, by rw [es, t3]; exact Int.le_refl 0, by rw [es, t3]; decide, ?_, fun e => by omega⟩
    rintro (e | ⟨e, _⟩)
    · omega
    · rw [eg] at e
      obtain ⟨g1, g2⟩ := t4 e
      rw [es, et, g1]
      rw [g1] at *
      exact g2
  · by_cases hB : i ≤ 16 + h.length
    · obtain ⟨t, rfl⟩ : ∃ t, i = 16 + t := ⟨i - 16, by omega⟩
      have et : (dcL h).take (16 + t) = firstL ++ h.take t := by
        unfold dcL
        rw [List.append_assoc, List.take_append, first_len, List.take_of_length_le (by rw [first_len]; omega), show 16 + t - 16 = t by omega, List.take_append_of_le_length (by omega)]
      have es : st (dcL h) (16 + t) = (1, 15, 0) := by
        unfold st
        rw [et, scan_append, stEnd]
        exact scan_plain _ _ _ (fun c hc => hh c (List.mem_of_mem_take hc))
      rw [show 16 + t = 16 + t from rfl]
      refine ⟨by rw [es]; show 15 ≤ 16 + t; omega, by rw [es]; decide, by rw [es]; decide, by rw [es]; decide, ?_, fun e => by omega⟩
      rintro (e | ⟨e, _⟩)
      · omega
      · by_cases ht : t < h.length
        · unfold dcL at e
          rw [List.append_assoc, List.getElem?_append_right (by rw [first_len]; omega), first_len, show 16 + t - 16 = t by omega, List.getElem?_append_left ht] at e
          exact absurd rfl (hh 44 (List.mem_of_getElem? e)).1
        · rw [es, et, List.take_of_length_le (by omega)]
          show trimL ((firstL ++ h).drop 15) = trimL h
          rw [List.drop_append_of_le_length (by rw [first_len]; omega), show firstL.drop 15 = [32] by decide]
          exact trim_blank h
    · obtain ⟨u, rfl⟩ : ∃ u, i = 17 + h.length + u := ⟨i - 17 - h.length, by omega⟩
      have hu : u < 124 := by omega
      have et : (dcL h).take (17 + h.length + u) = firstL ++ h ++ 44 :: rest1.take u := by
        unfold dcL
        rw [List.take_append, List.take_of_length_le (by rw [List.length_append, first_len]; omega), List.length_append, first_len, restL_eq, show 17 + h.length + u - (16 + h.length) = u + 1 by omega, List.take_succ_cons]
      have es : st (dcL h) (17 + h.length + u) = ((stC u).1, (stC u).2.1 + h.length, (stC u).2.2) := by
        unfold st
        rw [et, scan_append, scan_append, stEnd, scan_plain h _ _ hh, scan, List.length_append, first_len]
        have e1 : step (1, 15, 0) (0 + (16 + h.length)) 44 = (2, 17 + h.length, 0) := by
          unfold step
          rw [if_pos ⟨rfl, rfl⟩]
          show (2, 0 + (16 + h.length) + 1, (0 : Int)) = _
          rw [show 0 + (16 + h.length) + 1 = 17 + h.length by omega]
        rw [e1, show 0 + (16 + h.length) + 1 = 17 + h.length by omega]
        exact scan_shift h.length (rest1.take u) 17 (2, 17, 0)
      have eg : (dcL h)[17 + h.length + u]? = rest1[u]? := by
        unfold dcL
        rw [List.getElem?_append_right (by rw [List.length_append, first_len]; omega), List.length_append, first_len, restL_eq, show 17 + h.length + u - (16 + h.length) = u + 1 by omega, List.getElem?_cons_succ]
      obtain ⟨t1, t2, t3, t4, t5, t6, t7, t8⟩ := tabC ⟨u, hu⟩
      simp only at t1 t2 t3 t4 t5 t6 t7 t8
      have ed : ((dcL h).take (17 + h.length + u)).drop ((stC u).2.1 + h.length) = (rest1.take u).drop ((stC u).2.1 - 17) := by
        rw [et, List.drop_append, List.drop_of_length_le (by rw [List.length_append, first_len]; omega), List.nil_append, List.length_append, first_len, show (stC u).2.1 + h.length - (16 + h.length) = (stC u).2.1 - 17 + 1 by omega, List.drop_succ_cons]
      refine ⟨by rw [es]; show (stC u).2.1 + h.length ≤ _; omega, by rw [es]; exact t4, by rw [es]; exact t5, by rw [es]; exact t6, ?_, fun e => by rw [es]; exact t8 (by omega)⟩
      intro e
      rw [es] at e ⊢
      show trimL (((dcL h).take (17 + h.length + u)).drop ((stC u).2.1 + h.length)) = colL (stC u).1 h
      rw [ed, col_ne _ h t3]
      apply t7
      rcases e with e | ⟨e, e'⟩
      · left; omega
      · right; rw [eg] at e; exact ⟨e, e'⟩
end Go.Proofs.Qxb6604661a
