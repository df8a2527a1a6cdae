import Derived.Test.Qxb6604347aW2
import Derived.Test.Qxb6604347aShelf
import Derived.Deep.OwnRows
namespace Go.Proofs.Qxb6604347a
open Go.RowKit
theorem info9 : (Try.prog.info? 9).map (fun i => (i.zero, i.size, i.bytes)) = some (some (.string ByteArray.empty), 1, 16) := by kernel_rfl
def Z1 (n : Nat) : Array Value := madeCells (Value.string ByteArray.empty).cells n
theorem make1 (n : Nat) (hn : n ≤ 65536) (w : World) :
    (Instr.makeSlice 43 (.int .i64 (n : Int)) (.int .i64 (n : Int))).run Try.prog w = .ok (.slice (some ⟨w.heap.size, 0, none⟩) n n) (w.alloc (.cells (Z1 n) 9)) := by
  obtain ⟨i, h1, h2, h3, h4⟩ := infoOf info9
  have h := run_make (P := Try.prog) w 43 9 i (.string ByteArray.empty) Try.underlying43 h1 h2 .i64 .i64 n n (by omega) (by omega) (by rw [h4]; omega) (by omega)
  rw [h3] at h
  simpa [Z1] using h
/-- One entry of the text. -/
def ent (N A : Nat → ByteArray) (C : Nat → Bool) (k : Nat) : ByteArray := if C k then N k ++ ⟨#[61]⟩ ++ A k ++ ⟨#[32, 40, 99, 97, 116, 99, 104, 105, 110, 103, 32, 117, 112, 41]⟩ else N k ++ ⟨#[61]⟩ ++ A k
def markL : List UInt8 := [32, 40, 99, 97, 116, 99, 104, 105, 110, 103, 32, 117, 112, 41]
/-- Its bytes. -/
def entL (N A : Nat → ByteArray) (C : Nat → Bool) (k : Nat) : List UInt8 := (N k).data.toList ++ 61 :: (A k).data.toList ++ if C k then markL else []
theorem ent_data (N A : Nat → ByteArray) (C : Nat → Bool) (k : Nat) : (ent N A C k).data.toList = entL N A C k := by
  unfold ent entL markL
  cases C k <;> simp
theorem entL_length (N A : Nat → ByteArray) (C : Nat → Bool) (k : Nat) (h1 : (N k).size ≤ 1048576) (h2 : (A k).size ≤ 1048576) : (entL N A C k).length ≤ 2097167 := by
  unfold entL
  have e1 : (N k).data.toList.length = (N k).size := by simp
  have e2 : (A k).data.toList.length = (A k).size := by simp
  have e3 : (if C k then markL else []).length ≤ 14 := by cases C k <;> simp [markL]
  simp only [List.length_append, List.length_cons, e1, e2]
  omega
/-- The text of the first n. -/
def txt (N A : Nat → ByteArray) (C : Nat → Bool) (n : Nat) : List UInt8 := Lib.join ((List.range n).map (entL N A C)) [44, 32]
theorem joinTail_len (sep : List UInt8) (M : Nat) : ∀ r : List (List UInt8), (∀ x ∈ r, x.length ≤ M) → (Lib.joinTail sep r).length ≤ r.length * (M + sep.length)
  | [], _ => by simp [Lib.joinTail]
  | x :: r, h => by
    have ih := joinTail_len sep M r (fun y hy => h y (by simp [hy]))
    have hx := h x (by simp)
    simp only [Lib.joinTail, List.map_cons, List.flatten_cons, List.length_append, List.length_cons] at ih ⊢
    rw [Nat.add_mul]
    omega
theorem join_len (sep : List UInt8) (M : Nat) (r : List (List UInt8)) (h : ∀ x ∈ r, x.length ≤ M) : (Lib.join r sep).length ≤ r.length * (M + sep.length) := by
  cases r with
  | nil => simp [Lib.join_nil]
  | cons x r =>
    rw [Lib.join_cons, List.length_append, List.length_cons, Nat.add_mul]
    have h1 := joinTail_len sep M r (fun y hy => h y (by simp [hy]))
    have h2 := h x (by simp)
    omega
def FE (cur : Array Value) (n k : Nat) (N A : Nat → ByteArray) (C : Nat → Bool) : Prop := cur.size = n ∧ ∀ i, i < k → cur[i]? = some (.string (ent N A C i))
theorem FE.step {cur : Array Value} {n k : Nat} {N A : Nat → ByteArray} {C : Nat → Bool} (h : FE cur n k N A C) (hk : k < n) : FE (cur.setIfInBounds k (.string (ent N A C k))) n (k + 1) N A C := by
  obtain ⟨hs, hc⟩ := h
  refine ⟨by simpa using hs, fun i hi => ?_⟩
  rw [Array.getElem?_setIfInBounds]
  by_cases e : k = i
  · subst e; rw [if_pos rfl, if_pos (by omega)]
  · rw [if_neg e]; exact hc i (by omega)
theorem FE.step2 {cur : Array Value} {n k : Nat} {N A : Nat → ByteArray} {C : Nat → Bool} (h : FE cur n k N A C) (hk : k < n) (v : Value) : FE ((cur.setIfInBounds k v).setIfInBounds k (.string (ent N A C k))) n (k + 1) N A C := by
  have e : (cur.setIfInBounds k v).setIfInBounds k (.string (ent N A C k)) = cur.setIfInBounds k (.string (ent N A C k)) := by
    apply Array.ext_getElem?
    intro i
    simp only [Array.getElem?_setIfInBounds, Array.size_setIfInBounds]
    split <;> rfl
  rw [e]
  exact h.step hk
theorem heap_set1 {wr : World} {g k : Nat} {cur : Array Value} {T : TypeId} (h : wr.heap[g]? = some (.cells cur T)) (v : Value) (o : Obj) : ((wr.setCell ⟨g, k, none⟩ v).alloc o).heap[g]? = some (.cells (cur.setIfInBounds k v) T) := by
  have h1 := heap_setCell_same wr g k cur T v h
  have h2 : g < (wr.setCell ⟨g, k, none⟩ v).heap.size := by
    rcases Nat.lt_or_ge g (wr.setCell ⟨g, k, none⟩ v).heap.size with h' | h'
    · exact h'
    · rw [Array.getElem?_eq_none h'] at h1; cases h1
  rw [Below.heap_alloc _ _ _ h2, h1]
theorem heap_set2 {wr : World} {g k : Nat} {cur : Array Value} {T : TypeId} (h : wr.heap[g]? = some (.cells cur T)) (v v' : Value) (o : Obj) : (((wr.setCell ⟨g, k, none⟩ v).setCell ⟨g, k, none⟩ v').alloc o).heap[g]? = some (.cells ((cur.setIfInBounds k v).setIfInBounds k v') T) :=
  heap_set1 (heap_setCell_same wr g k cur T v h) v' o
theorem below_set1 {w wr : World} {g k B : Nat} (h : Below B w wr) (hg : B ≤ g) (hs : B ≤ wr.heap.size) (v : Value) (o : Obj) : Below B w ((wr.setCell ⟨g, k, none⟩ v).alloc o) :=
  (h.setCell (p := ⟨g, k, none⟩) hg v).alloc (by simpa [World.setCell] using hs) o
theorem below_set2 {w wr : World} {g k B : Nat} (h : Below B w wr) (hg : B ≤ g) (hs : B ≤ wr.heap.size) (v v' : Value) (o : Obj) : Below B w (((wr.setCell ⟨g, k, none⟩ v).setCell ⟨g, k, none⟩ v').alloc o) :=
  ((h.setCell (p := ⟨g, k, none⟩) hg v).setCell (p := ⟨g, k, none⟩) hg v').alloc (by simpa [World.setCell] using hs) o
theorem map_ent (N A : Nat → ByteArray) (C : Nat → Bool) (l : List Nat) : (l.map (ent N A C)).map (fun x => x.data.toList) = l.map (entL N A C) := by
  rw [List.map_map]
  exact List.map_congr_left fun i _ => ent_data N A C i
set_option maxHeartbeats 400000 in
theorem string_any (a : Option Addr) (n c : Nat) (N A : Nat → ByteArray) (C : Nat → Bool) (v1 v2 : Int) (w : World) (hm : Mem w a n N A C) (hn : n ≤ 65536) (hS : ∀ i, i < n → (N i).size ≤ 1048576 ∧ (A i).size ≤ 1048576) :
    Calls Try.prog 10 #[.agg #[.int .u64 v1, .int .u64 v2, .slice a n c]] w fun e w' => e = .returned (.string ⟨(txt N A C n).toArray⟩) ∧ Below w.heap.size w w' := by
  have hmk := make1 n hn
  have HM := hid hm
  have HS := hid hS
  clear hm hS
  go_enter Try.func10, Try.ntmps10
  go_wp2
  go_loopw [13] (fun i wr => ∃ (k : Nat) (cur : Array Value), k ≤ n ∧ i = .int .i64 k ∧ Hid (FE cur n k N A C) ∧ Hid (wr.heap[w.heap.size + 1]? = some (.cells cur 9)) ∧ Hid (Below w.heap.size w wr)) (fun i _ => n - (intOf i).toNat)
  case atStart => exact ⟨0, _, Nat.zero_le _, rfl, ⟨size_madeCells _ _, fun i hi => by omega⟩, heap_alloc2_new w _ _, ((Below.refl _ _).alloc (Nat.le_refl _) _).alloc (by simp) _⟩
  case round =>
    obtain ⟨k, cur, hk, rfl, hf, hh, hb⟩ := hrel
    by_cases hlt : k < n
    · obtain ⟨b, o, rfl, h1, h2, h3⟩ := HM.out.at hlt
      obtain ⟨hb1, hb2⟩ := HS.out k hlt
      have hb0 : b < w.heap.size := block_lt_of_cell h1
      have hcc : wr.cell? ⟨w.heap.size + 1, k, none⟩ = some (cur[k]'(by rw [hf.out.1]; exact hlt)) := by
        rw [cell_of_row _ _ _ _ _ _ hh.out, Array.getElem?_eq_getElem]
      have hfz : wr.frozen? ⟨w.heap.size + 1, k, none⟩ = false := frozen_of_row _ _ _ _ _ hh.out
      have hsz : w.heap.size + 1 < wr.heap.size := block_lt_of_cell hcc
      have g1 : wr.cell? ⟨b, o + k * 3, none⟩ = some (.string (N k)) := (hb.out.cell (p := ⟨b, o + k * 3, none⟩) hb0).trans h1
      have g2 : wr.cell? ⟨b, o + k * 3 + 1, none⟩ = some (.string (A k)) := (hb.out.cell (p := ⟨b, o + k * 3 + 1, none⟩) hb0).trans h2
      have g3 : wr.cell? ⟨b, o + k * 3 + 2, none⟩ = some (.bool (C k)) := (hb.out.cell (p := ⟨b, o + k * 3 + 2, none⟩) hb0).trans h3
      clear h1 h2 h3
      have hlt' : (k : Int) < (n : Int) := by omega
      generalize hcu : (cur[k]'(by rw [hf.out.1]; exact hlt)) = old at hcc
      clear hcu
      cases hc : C k with
      | true =>
        rw [hc] at g3
        have HE : Hid (ent N A C k = N k ++ ⟨#[61]⟩ ++ A k ++ ⟨#[32, 40, 99, 97, 116, 99, 104, 105, 110, 103, 32, 117, 112, 41]⟩) := by unfold ent; rw [hc]; rfl
        clear hc
        go_wp2
        go_roundw
        case rel => exact ⟨k + 1, _, by omega, by go_num, by rw [← HE.out]; exact hf.out.step2 hlt _, heap_set2 hh.out _ _ _, below_set2 hb.out (by omega) (by omega) _ _ _⟩
        case measure => simp [intOf]; omega
      | false =>
        rw [hc] at g3
        have HE : Hid (ent N A C k = N k ++ ⟨#[61]⟩ ++ A k) := by unfold ent; rw [hc]; rfl
        clear hc
        go_wp2
        go_roundw
        case rel => exact ⟨k + 1, _, by omega, by go_num, by rw [← HE.out]; exact hf.out.step hlt, heap_set1 hh.out _ _, below_set1 hb.out (by omega) (by omega) _ _⟩
        case measure => simp [intOf]; omega
    · obtain rfl : k = n := by omega
      go_wp2_with fail
      have hc := Try.strings_Join (w.heap.size + 1) 0 k ((List.range k).map (ent N A C)) ⟨#[44, 32]⟩ wr (fun j x hx => by
          have hj : j < k := by have := (List.getElem?_eq_some_iff.1 hx).1; simpa using this
          rw [List.getElem?_map, List.getElem?_range hj] at hx
          obtain rfl : ent N A C j = x := by simpa using hx
          rw [cell_of_row _ _ _ _ _ _ hh.out, Nat.zero_add]
          exact hf.out.2 j hj) (by
            rcases Nat.lt_or_ge (w.heap.size + 1) wr.heap.size with h' | h'
            · exact h'
            · have := hh.out; rw [Array.getElem?_eq_none h'] at this; cases this) (by simp; omega) (by simp) (by
            rw [map_ent]
            refine Nat.le_trans (join_len _ 2097167 _ (fun x hx => ?_)) ?_
            · obtain ⟨j, hj, rfl⟩ := List.mem_map.1 hx
              have := HS.out j (by simpa using hj)
              exact entL_length N A C j this.1 this.2
            · simp only [List.length_map, List.length_range, List.length_cons, List.length_nil]
              omega)
      rw [List.length_map, List.length_range, map_ent] at hc
      refine hc.mono ?_
      clear hc
      rintro e w2 ⟨rfl, hb2⟩
      have HB2 := hid hb2
      clear hb2
      go_wp2
      go_ret
      exact ⟨rfl, hb.out.trans (HB2.out.mono hb.out.size)⟩
end Go.Proofs.Qxb6604347a
