import Derived.Test.Qxb6604347aT
import Derived.Deep.MidRow
namespace Go.Proofs.Qxb6604347a
open Go.RowKit
def cellsM (N A : Nat → ByteArray) (C : Nat → Bool) (k : Nat) : List Value := (List.range k).flatMap fun i => [.string (N i), .string (A i), .bool (C i)]
def RetP (n : Nat) (N A : Nat → ByteArray) (C : Nat → Bool) (e : Ending) (w' : World) : Prop := ∃ a' c', e = .returned (.tuple #[.slice a' n c', .bool true]) ∧ Mem w' a' n N A C
theorem ownsRow_below {w w1 : World} {B : Nat} {e : TypeId} {size : Nat} {v : Value} {k : Nat} {xs : List Value} (h : w.ownsRow B e size v k xs) (hb : Below w.heap.size w w1) : w1.ownsRow B e size v k xs := by
  obtain ⟨h1, h2⟩ := h
  refine ⟨h1, ?_⟩
  rcases h2 with h2 | ⟨g, cap, cur, hv, hg, hh, r⟩
  · exact .inl h2
  · refine .inr ⟨g, cap, cur, hv, hg, ?_, r⟩
    have : g < w.heap.size := by
      rcases Nat.lt_or_ge g w.heap.size with h' | h'
      · exact h'
      · rw [Array.getElem?_eq_none h'] at hh; cases hh
    rw [hb.block g this]; exact hh
theorem cut_entry {s : ByteArray} {N A : Nat → ByteArray} {C : Nat → Bool} {n k : Nat} (h : At s N A C n k) : (s.extract (off N A C k) (off N A C k + elen N A C k)).data.toList = (N k).data.toList ++ 61 :: (A k).data.toList ++ if C k then markL else [] := h.cut
theorem cut_size {s : ByteArray} {N A : Nat → ByteArray} {C : Nat → Bool} {n k : Nat} (h : At s N A C n k) (h1 : (N k).size ≤ 1048576) (h2 : (A k).size ≤ 1048576) : (s.extract (off N A C k) (off N A C k + elen N A C k)).size ≤ 4194304 := by
  have e := congrArg List.length h.cut
  have := entL_length N A C k h1 h2
  simp only [Array.length_toList, ByteArray.size_data] at e
  omega
theorem cells_new2 (w : World) (O : Obj) (x y z : Value) (T : TypeId) : ∀ (j : Nat) (u : Value), [x, y, z][j]? = some u → ((w.alloc O).alloc (.cells #[x, y, z] T)).cell? ((⟨w.heap.size + 1, 0, none⟩ : Addr).add j) = some u := by
  intro j u hu
  rw [Addr.add_mid, Nat.zero_add, cell_of_row _ _ _ _ _ _ (heap_alloc2_new w O _)]
  simpa using hu
theorem oneM (a b : ByteArray) (c : Bool) : ∀ u ∈ [Value.string a, .string b, .bool c], u.oneCell' = true := by
  intro u hu
  simp at hu
  rcases hu with rfl | rfl | rfl <;> rfl
theorem cellsM_succ (N A : Nat → ByteArray) (C : Nat → Bool) (k : Nat) : cellsM N A C k ++ [.string (N k), .string (A k), .bool (C k)] = cellsM N A C (k + 1) := by
  unfold cellsM
  rw [List.range_succ, List.flatMap_append]
  simp
theorem cellsM_len (N A : Nat → ByteArray) (C : Nat → Bool) : ∀ n, (cellsM N A C n).length = n * 3
  | 0 => rfl
  | n + 1 => by rw [← cellsM_succ, List.length_append, cellsM_len N A C n]; simp; omega
theorem cellsM_at (N A : Nat → ByteArray) (C : Nat → Bool) : ∀ n i, i < n → (cellsM N A C n)[i * 3]? = some (.string (N i)) ∧ (cellsM N A C n)[i * 3 + 1]? = some (.string (A i)) ∧ (cellsM N A C n)[i * 3 + 2]? = some (.bool (C i))
  | 0, i, h => by omega
  | n + 1, i, h => by
    have hl := cellsM_len N A C n
    rw [← cellsM_succ]
    by_cases e : i < n
    · have ih := cellsM_at N A C n i e
      rw [List.getElem?_append_left (by omega), List.getElem?_append_left (by omega), List.getElem?_append_left (by omega)]
      exact ih
    · obtain rfl : i = n := by omega
      rw [List.getElem?_append_right (by omega), List.getElem?_append_right (by omega), List.getElem?_append_right (by omega), hl]
      rw [show i * 3 - i * 3 = 0 by omega, show i * 3 + 1 - i * 3 = 1 by omega, show i * 3 + 2 - i * 3 = 2 by omega]
      exact ⟨rfl, rfl, rfl⟩
theorem below_app {w w1 w2 : World} {v : Value} {k : Nat} {xs : List Value} {O O' : Obj} (hb : Below w.heap.size w w1) (ho : w1.ownsRow w.heap.size 28 3 v k xs) (hg : ((w1.alloc O).alloc O').grownBy w2 v.ownBlock) : Below w.heap.size w w2 :=
  ((hb.alloc hb.size O).alloc (by have := hb.size; simp; omega) O').grown hg (by have := hb.size; simp; omega) (fun g hg' => (ho.lt g hg').1)
theorem retP {w2 : World} {B n k m : Nat} {v : Value} {N A : Nat → ByteArray} {C : Nat → Bool} (hk : k + 1 = n) (ho : w2.ownsRow B 28 3 v m (cellsM N A C (k + 1))) (hm : m = n) : RetP n N A C (.returned (.tuple #[v, .bool true])) w2 := by
  subst hm
  subst hk
  rcases ho.2 with ⟨_, h0⟩ | ⟨g, cap, cur, rfl, hg, hh, h1, h2, h3, h4⟩
  · omega
  · refine ⟨_, _, rfl, .inr ⟨g, 0, rfl, ?_, fun i hi => ?_⟩⟩
    · rcases Nat.lt_or_ge g w2.heap.size with h' | h'
      · exact h'
      · rw [Array.getElem?_eq_none h'] at hh; cases hh
    · have hc : ∀ j, j < (k + 1) * 3 → w2.cell? ⟨g, 0 + j, none⟩ = (cellsM N A C (k + 1))[j]? := by
        intro j hj
        rw [cell_of_row _ _ _ _ _ _ hh, Nat.zero_add, ← h4, List.getElem?_take, if_pos hj, Array.getElem?_toList]
      have hm := cellsM_at N A C (k + 1) i hi
      refine ⟨?_, ?_, ?_⟩
      · rw [hc (i * 3) (by omega)]; exact hm.1
      · rw [Nat.add_assoc, hc (i * 3 + 1) (by omega)]; exact hm.2.1
      · rw [Nat.add_assoc, hc (i * 3 + 2) (by omega)]; exact hm.2.2
theorem no_way {a b : Int} {m : Nat} {p : Prop} (h : b ≤ a ∨ p) (h1 : (m : Int) + 1 < b) (h2 : ¬ p) (e : a = (m : Int) + 1 := by go_num) : False := by
  rcases h with h | h
  · omega
  · exact h2 h
theorem ne44 {b : UInt8} {m : Int} (h : ((b.toNat : Int) != m) = false) : (b.toNat : Int) = m := by simpa using h
theorem ne44' {b : UInt8} {m : Int} (h : ((b.toNat : Int) != m) = true) : ¬ (b.toNat : Int) = m := by simpa using h
set_option maxHeartbeats 1000000 in
theorem parse_any (s : ByteArray) (N A : Nat → ByteArray) (C : Nat → Bool) (n : Nat) (w : World) (hs : s.data.toList = txt N A C n) (hn : n ≤ 65536) (hn0 : 0 < n) (hS : ∀ i, i < n → (N i).size ≤ 1048576 ∧ (A i).size ≤ 1048576)
    (hsep : ∀ i, i < n → hasSep (N i) = false ∧ hasSep (A i) = false) :
    Calls Try.prog 9 #[.string s] w fun e w' => RetP n N A C e w' ∧ Below w.heap.size w w' := by
  have HS := hid hS
  have HP := hid hsep
  have HT := hid hs
  have HAT : Hid (∀ k, k < n → At s N A C n k) := fun k hk => at_of hs hk (hsep k hk).1 (hsep k hk).2
  have HOF : Hid (∀ k, k ≤ n → off N A C k ≤ 274877906944) := fun k hk => Nat.le_trans (off_le N A C n hS k hk) (by omega)
  have hssz : s.size ≤ 274877906944 := by
    have h := (HAT.out (n - 1) (by omega)).last (by omega)
    have h1 := HOF.out (n - 1) (by omega)
    have h2 := hS (n - 1) (by omega)
    have h3 := entL_length N A C (n - 1) h2.1 h2.2
    have h4 := off_le N A C n hS (n - 1) (by omega)
    unfold elen at h
    omega
  have hne : s.toList.isEmpty = false := by
    have h := (HAT.out 0 hn0).fit
    have h0 : 0 < elen N A C 0 := by unfold elen entL; simp; omega
    have : 0 < s.size := by omega
    rw [ByteArray.toList_eq]
    cases hd : s.data.toList with
    | nil =>
      have e : s.data.toList.length = s.size := by simp
      rw [hd] at e
      simp at e
      omega
    | cons => rfl
  clear hS hsep hs
  obtain ⟨i28, q1, q2, q3, q4⟩ := infoOf info28
  have Q1 := hid q1
  have Q2 := hid q2
  have Q3 := hid q3
  have Q4 := hid q4
  clear q1 q2 q3 q4
  go_enter Try.func9, Try.ntmps9
  go_wp2
  go_loopw [4, 5] (fun v st wr => ∃ k : Nat, k < n ∧ st = .int .i64 (off N A C k) ∧ Hid (wr.ownsRow w.heap.size 28 3 v k (cellsM N A C k)) ∧ Hid (Below w.heap.size w wr)) (fun _ st _ => s.size + 1 - (intOf st).toNat)
  case atStart => exact ⟨0, hn0, rfl, World.ownsRow_nil _ _ _ _, Below.refl _ _⟩
  case round =>
    obtain ⟨k, hk, rfl, hown, hbel⟩ := hrel
    have HA := hid (HAT.out k hk)
    have hfit := HA.out.fit
    have hof := HOF.out k (by omega)
    have hst : ((off N A C k : Nat) : Int) ≤ (s.size : Int) := by omega
    go_wp2
    go_loop [6] (fun e => ∃ j : Nat, j ≤ elen N A C k ∧ e = .int .i64 ((off N A C k + j : Nat) : Int)) (fun e => s.size + 1 - (intOf e).toNat)
    case atStart => exact ⟨0, Nat.zero_le _, rfl⟩
    case round =>
      obtain ⟨j, hj, rfl⟩ := hrel
      by_cases hje : j < elen N A C k
      · have hjs : off N A C k + j < s.size := by omega
        have hjs' : ((off N A C k + j : Nat) : Int) < (s.size : Int) := by omega
        go_wp2_with fail
        · go_round
          case rel => exact ⟨j + 1, by omega, by go_num⟩
          case measure => simp [intOf]; omega
        · exact (HA.out.inner j hjs hje (ne44 (by assumption))).elim
      · obtain rfl : j = elen N A C k := by omega
        clear hje hj
        have HC := hid (cut_entry HA.out)
        have HZ := hid (cut_size HA.out (HS.out k hk).1 (HS.out k hk).2)
        by_cases hlast : k + 1 = n
        · have hge : (s.size : Int) ≤ ((off N A C k + elen N A C k : Nat) : Int) := by have := HA.out.last hlast; omega
          have heq : ((off N A C k : Int) + (elen N A C k : Int) == (s.size : Int)) = true := by have := HA.out.last hlast; rw [beq_iff_eq]; omega
          go_wp2_with fail
          refine (entry_any _ (N k) (A k) (C k) _ HC.out (HP.out k hk).1 (HP.out k hk).2 HZ.out).mono ?_
          rintro e w1 ⟨rfl, hb1⟩
          have HO1 := hid (ownsRow_below hown.out hb1)
          have HB1 := hid (hbel.out.trans (hb1.mono hbel.out.size))
          clear hb1
          go_wp2_with (at_builtin; refine wpList_append_own _ rfl _ _ 22 rfl w.heap.size 28 i28 zM 3 40 Try.underlying22 Q1.out Q2.out Q3.out Q4.out rfl (by decide) _ k (cellsM N A C k) rfl ((HO1.out.alloc _).alloc _) ⟨w1.heap.size + 1, 0, none⟩ 1 1 [.string (N k), .string (A k), .bool (C k)] rfl rfl (cells_new2 _ _ _ _ _ _) (oneM _ _ _) (by unfold maxLen; omega) (by omega) ?cb ?_)
          case cb => have := HB1.out.size; simp; omega
          intro v' w2 hown2 hgr2 hv2
          rw [cellsM_succ] at hown2
          have HB2 := hid (below_app HB1.out HO1.out hgr2)
          have HO2 := hid hown2
          clear hown2 hgr2 hv2
          go_wp2
          go_ret2
          exact ⟨retP hlast HO2.out rfl, HB2.out⟩
        · have hmore : k + 1 < n := by omega
          have hlt1 : ((off N A C k + elen N A C k : Nat) : Int) < (s.size : Int) := by have := HA.out.more hmore; omega
          have hlt2 : ((off N A C k + elen N A C k : Nat) : Int) + 1 < (s.size : Int) := by have := HA.out.more hmore; omega
          have hsc := hid (HA.out.comma hmore)
          have hsb := hid (HA.out.blank hmore)
          have hos := hid (off_succ N A C k)
          go_wp2_with fail
          · exact (ne44' (by assumption) (hsc.out _)).elim
          refine (entry_any _ (N k) (A k) (C k) _ HC.out (HP.out k hk).1 (HP.out k hk).2 HZ.out).mono ?_
          rintro e w1 ⟨rfl, hb1⟩
          have HO1 := hid (ownsRow_below hown.out hb1)
          have HB1 := hid (hbel.out.trans (hb1.mono hbel.out.size))
          clear hb1
          go_wp2_with (at_builtin; refine wpList_append_own _ rfl _ _ 22 rfl w.heap.size 28 i28 zM 3 40 Try.underlying22 Q1.out Q2.out Q3.out Q4.out rfl (by decide) _ k (cellsM N A C k) rfl ((HO1.out.alloc _).alloc _) ⟨w1.heap.size + 1, 0, none⟩ 1 1 [.string (N k), .string (A k), .bool (C k)] rfl rfl (cells_new2 _ _ _ _ _ _) (oneM _ _ _) (by unfold maxLen; omega) (by omega) ?cb ?_)
          case cb => have := HB1.out.size; simp; omega
          intro v' w2 hown2 hgr2 hv2
          rw [cellsM_succ] at hown2
          have HB2 := hid (below_app HB1.out HO1.out hgr2)
          have HO2 := hid hown2
          clear hown2 hgr2 hv2
          go_wp2
          · exact (no_way (by assumption) hlt2 (fun h => ne44' h (hsb.out _))).elim
          · go_roundw
            case rel => exact ⟨k + 1, hmore, by rw [hos.out]; go_num, HO2.out, HB2.out⟩
            case measure => simp [intOf]; omega
end Go.Proofs.Qxb6604347a
