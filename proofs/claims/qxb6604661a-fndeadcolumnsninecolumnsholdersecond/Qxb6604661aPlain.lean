import Derived.Test.Qxb6604661aW1
namespace Go.Proofs.Qxb6604661a
def isSp (c : UInt8) : Bool := c == 32 || c == 9 || c == 10 || c == 13
/-- A text without the blanks at its two ends. -/
def trimL (l : List UInt8) : List UInt8 := ((l.dropWhile isSp).reverse.dropWhile isSp).reverse
theorem dw_all : ∀ (A M : List UInt8), (∀ c ∈ A, isSp c = true) → (A ++ M).dropWhile isSp = M.dropWhile isSp
  | [], _, _ => rfl
  | a :: A, M, h => by
    rw [List.cons_append, List.dropWhile_cons, if_pos (h a (by simp))]
    exact dw_all A M (fun c hc => h c (by simp [hc]))
theorem dw_head (a : UInt8) (M : List UInt8) (h : isSp a = false) : (a :: M).dropWhile isSp = a :: M := by
  rw [List.dropWhile_cons, if_neg (by simp [h])]
theorem trim_eq (A M B : List UInt8) (hA : ∀ c ∈ A, isSp c = true) (hB : ∀ c ∈ B, isSp c = true) (h1 : ∀ c, M.head? = some c → isSp c = false) (h2 : ∀ c, M.getLast? = some c → isSp c = false) : trimL (A ++ (M ++ B)) = M := by
  unfold trimL
  rw [dw_all A _ hA]
  cases M with
  | nil =>
    rw [List.nil_append, show B.dropWhile isSp = [] by simpa using dw_all B [] hB]
    rfl
  | cons a M =>
    have e : ((a :: M) ++ B).dropWhile isSp = (a :: M) ++ B := dw_head a (M ++ B) (h1 a rfl)
    rw [e, List.reverse_append, dw_all _ _ (fun c hc => hB c (by simpa using hc))]
    have hne : (a :: M).reverse ≠ [] := by simp
    obtain ⟨x, r, hx⟩ := List.exists_cons_of_ne_nil hne
    have hl : (a :: M).getLast? = some x := by
      rw [← List.head?_reverse, hx]; rfl
    rw [hx, dw_head x r (h2 x hl), ← hx, List.reverse_reverse]
/-- .. cut out by its two places. -/
theorem trim_cut (l : List UInt8) (k q : Nat) (hkq : k ≤ q) (hq : q ≤ l.length) (hA : ∀ j c, j < k → l[j]? = some c → isSp c = true) (hB : ∀ j c, q ≤ j → l[j]? = some c → isSp c = true)
    (h1 : k < q → ∀ c, l[k]? = some c → isSp c = false) (h2 : k < q → ∀ c, l[q - 1]? = some c → isSp c = false) : (l.take q).drop k = trimL l := by
  have e : l = l.take k ++ ((l.take q).drop k ++ l.drop q) := by
    have e1 : l.take q = l.take k ++ (l.take q).drop k := by
      have := (List.take_append_drop k (l.take q)).symm
      rwa [List.take_take, Nat.min_eq_left hkq] at this
    rw [← List.append_assoc, ← e1, List.take_append_drop]
  have h := trim_eq (l.take k) ((l.take q).drop k) (l.drop q) ?_ ?_ ?_ ?_
  · rw [← e] at h; exact h.symm
  · intro c hc
    obtain ⟨j, hj⟩ := List.mem_iff_getElem?.1 hc
    rw [List.getElem?_take] at hj
    split at hj
    · exact hA j c ‹_› hj
    · cases hj
  · intro c hc
    obtain ⟨j, hj⟩ := List.mem_iff_getElem?.1 hc
    rw [List.getElem?_drop] at hj
    exact hB (q + j) c (by omega) hj
  · intro c hc
    rw [List.head?_drop, List.getElem?_take] at hc
    split at hc
    · exact h1 ‹_› c hc
    · cases hc
  · intro c hc
    rw [List.getLast?_eq_getElem?, List.getElem?_drop, List.getElem?_take, List.length_drop, List.length_take, Nat.min_eq_left hq] at hc
    by_cases hlt : k < q
    · rw [if_pos (by omega), show k + (q - k - 1) = q - 1 by omega] at hc
      exact h2 hlt c hc
    · rw [if_neg (by omega)] at hc; cases hc
theorem trim_blank (h : List UInt8) : trimL (32 :: h) = trimL h := by
  unfold trimL
  rw [List.dropWhile_cons, if_pos (by decide)]
/-- The nine columns. -/
def colL (n : Nat) (h : List UInt8) : List UInt8 :=
  match n with
  | 0 => [101, 118, 101, 110, 116, 95, 105, 100, 58, 58, 116, 101, 120, 116]
  | 1 => trimL h
  | 2 => [101, 118, 101, 110, 116, 95, 116, 121, 112, 101]
  | 3 => [97, 103, 103, 114, 101, 103, 97, 116, 101, 95, 116, 121, 112, 101]
  | 4 => [97, 103, 103, 114, 101, 103, 97, 116, 101, 95, 105, 100]
  | 5 => [97, 103, 103, 114, 101, 103, 97, 116, 101, 95, 118, 101, 114, 115, 105, 111, 110]
  | 6 => [97, 116, 116, 101, 109, 112, 116, 115]
  | 7 => [99, 111, 97, 108, 101, 115, 99, 101, 40, 108, 97, 115, 116, 95, 101, 114, 114, 111, 114, 95, 109, 101, 115, 115, 97, 103, 101, 44, 32, 39, 39, 41]
  | 8 => [108, 97, 115, 116, 95, 97, 116, 116, 101, 109, 112, 116, 95, 97, 116]
  | _ => []
/-- What one byte does: the number of columns, where the next begins, the depth. -/
def step (s : Nat × Nat × Int) (i : Nat) (c : UInt8) : Nat × Nat × Int :=
  if c = 44 ∧ s.2.2 = 0 then (s.1 + 1, i + 1, s.2.2) else if c = 40 then (s.1, s.2.1, s.2.2 + 1) else if c = 41 then (s.1, s.2.1, s.2.2 - 1) else s
def scan : List UInt8 → Nat → Nat × Nat × Int → Nat × Nat × Int
  | [], _, s => s
  | c :: t, i, s => scan t (i + 1) (step s i c)
theorem scan_append : ∀ (a b : List UInt8) (i : Nat) (s : Nat × Nat × Int), scan (a ++ b) i s = scan b (i + a.length) (scan a i s)
  | [], b, i, s => rfl
  | c :: a, b, i, s => by
    rw [List.cons_append, scan, scan, scan_append a b, List.length_cons, Nat.add_assoc, Nat.add_comm 1]
/-- The state ahead of place i. -/
def st (d : List UInt8) (i : Nat) : Nat × Nat × Int := scan (d.take i) 0 (0, 0, 0)
theorem st_succ (d : List UInt8) (i : Nat) (c : UInt8) (h : d[i]? = some c) : st d (i + 1) = step (st d i) i c := by
  obtain ⟨hi, he⟩ := List.getElem?_eq_some_iff.1 h
  unfold st
  rw [List.take_succ_eq_append_getElem hi, scan_append, List.length_take, Nat.min_eq_left (by omega), Nat.zero_add, he]
  rfl
theorem scan_plain : ∀ (h : List UInt8) (i : Nat) (s : Nat × Nat × Int), (∀ c ∈ h, c ≠ 44 ∧ c ≠ 40 ∧ c ≠ 41) → scan h i s = s
  | [], _, _, _ => rfl
  | c :: t, i, s, hh => by
    obtain ⟨h1, h2, h3⟩ := hh c (by simp)
    rw [scan, scan_plain t _ _ (fun c hc => hh c (by simp [hc]))]
    unfold step
    rw [if_neg (fun e => h1 e.1), if_neg h2, if_neg h3]
/-- All places moved on by k. -/
theorem scan_shift (k : Nat) : ∀ (l : List UInt8) (i : Nat) (s : Nat × Nat × Int), scan l (i + k) (s.1, s.2.1 + k, s.2.2) = ((scan l i s).1, (scan l i s).2.1 + k, (scan l i s).2.2)
  | [], _, _ => rfl
  | c :: t, i, s => by
    rw [scan, scan, show i + k + 1 = i + 1 + k by omega]
    have e : step (s.1, s.2.1 + k, s.2.2) (i + k) c = ((step s i c).1, (step s i c).2.1 + k, (step s i c).2.2) := by
      unfold step
      simp only
      split
      · simp only [Prod.mk.injEq, true_and, and_true]; omega
      · split
        · rfl
        · split <;> rfl
    rw [e]
    exact scan_shift k t (i + 1) (step s i c)
end Go.Proofs.Qxb6604661a
