import Derived.Test.Qxb6604347aW1
import Derived.Deep.RegionHeld3
namespace Go.Proofs.Qxb6604347a
open Go.RowKit
theorem infoOf {P : Program} {e : TypeId} {z : Value} {s b : Nat} (h : (P.info? e).map (fun i => (i.zero, i.size, i.bytes)) = some (some z, s, b)) : ∃ i, P.info? e = some i ∧ i.zero = some z ∧ i.size = s ∧ i.bytes = b := by
  cases hq : P.info? e with
  | none => simp [hq] at h
  | some i => simp [hq] at h; exact ⟨i, rfl, h.1, h.2.1, h.2.2⟩
def zM : Value := .agg #[.string ByteArray.empty, .string ByteArray.empty, .bool false]
/-- 'make([]T, n)' of three-celled elements: some row of 3n cells. -/
def Z3 (n : Nat) : Array Value := madeCells zM.cells (n * 3)
theorem Z3_size (n : Nat) : (Z3 n).size = n * 3 := size_madeCells _ _
theorem info28 : (Try.prog.info? 28).map (fun i => (i.zero, i.size, i.bytes)) = some (some zM, 3, 40) := by kernel_rfl
theorem info40 : (Try.prog.info? 40).map (fun i => (i.zero, i.size, i.bytes)) = some (some zM, 3, 40) := by kernel_rfl
theorem make3 {P : Program} {t e : TypeId} (ht : P.underlying t = some (.slice e)) (he : (P.info? e).map (fun i => (i.zero, i.size, i.bytes)) = some (some zM, 3, 40)) (n : Nat) (hn : n ≤ 65536) (w : World) :
    (Instr.makeSlice t (.int .i64 (n : Int)) (.int .i64 (n : Int))).run P w = .ok (.slice (some ⟨w.heap.size, 0, none⟩) n n) (w.alloc (.cells (Z3 n) e)) := by
  obtain ⟨i, h1, h2, h3, h4⟩ := infoOf he
  have h := run_make (P := P) w t e i zM ht h1 h2 .i64 .i64 n n (by omega) (by omega) (by rw [h4]; omega) (by omega)
  rw [h3] at h
  simpa [Z3] using h
/-- A row of members, filled up to k. -/
def Filled (cur : Array Value) (n k : Nat) (N A : Nat → ByteArray) (C : Nat → Bool) : Prop :=
  cur.size = n * 3 ∧ ∀ i, i < k → cur[i * 3]? = some (.string (N i)) ∧ cur[i * 3 + 1]? = some (.string (A i)) ∧ cur[i * 3 + 2]? = some (.bool (C i))
theorem Filled.at {cur : Array Value} {n k : Nat} {N A : Nat → ByteArray} {C : Nat → Bool} (h : Filled cur n k N A C) (hk : k < n) :
    ∃ u0 u1 u2, cur[k * 3]? = some u0 ∧ cur[k * 3 + 1]? = some u1 ∧ cur[k * 3 + 2]? = some u2 := by
  have := h.1
  exact ⟨_, _, _, Array.getElem?_eq_getElem (by omega), Array.getElem?_eq_getElem (by omega), Array.getElem?_eq_getElem (by omega)⟩
theorem Filled.step {cur : Array Value} {n k : Nat} {N A : Nat → ByteArray} {C : Nat → Bool} (h : Filled cur n k N A C) (hk : k < n) :
    Filled (((cur.setIfInBounds (k * 3) (.string (N k))).setIfInBounds (k * 3 + 1) (.string (A k))).setIfInBounds (k * 3 + 2) (.bool (C k))) n (k + 1) N A C := by
  obtain ⟨hs, hc⟩ := h
  refine ⟨by simpa using hs, fun i hi => ?_⟩
  simp only [Array.getElem?_setIfInBounds, Array.size_setIfInBounds]
  by_cases e : i = k
  · subst e
    rw [if_neg (by omega), if_neg (by omega), if_pos rfl, if_pos (by omega), if_neg (by omega), if_pos rfl, if_pos (by omega), if_pos rfl, if_pos (by omega)]
    exact ⟨rfl, rfl, rfl⟩
  · rw [if_neg (by omega), if_neg (by omega), if_neg (by omega), if_neg (by omega), if_neg (by omega), if_neg (by omega), if_neg (by omega), if_neg (by omega), if_neg (by omega)]
    exact hc i (by omega)
theorem Filled.mem {cur : Array Value} {n : Nat} {N A : Nat → ByteArray} {C : Nat → Bool} (h : Filled cur n n N A C) (w : World) (T : TypeId) : Mem (w.alloc (.cells cur T)) (some ⟨w.heap.size, 0, none⟩) n N A C := by
  refine .inr ⟨_, _, rfl, by simp, fun i hi => ?_⟩
  have e := heap_alloc_new w (.cells cur T)
  rw [cell_of_row _ _ _ _ _ _ e, cell_of_row _ _ _ _ _ _ e, cell_of_row _ _ _ _ _ _ e, Nat.zero_add]
  exact h.2 i hi
theorem set3 (w : World) (cur : Array Value) (T : TypeId) (q i j l : Nat) (v0 v1 v2 : Value) : ((((w.alloc (.cells cur T)).drewN q).setCell ⟨w.heap.size, i, none⟩ v0).setCell ⟨w.heap.size, j, none⟩ v1).setCell ⟨w.heap.size, l, none⟩ v2 =
    (w.alloc (.cells (((cur.setIfInBounds i v0).setIfInBounds j v1).setIfInBounds l v2) T)).drewN q := by
  have h : ∀ (W : World) (a : Addr) (v : Value), (W.drewN q).setCell a v = (W.setCell a v).drewN q := fun _ _ _ => rfl
  rw [h, World.setCell_alloc_at _ _ _ _ _ rfl, h, World.setCell_alloc_at _ _ _ _ _ rfl, h, World.setCell_alloc_at _ _ _ _ _ rfl]
/-- It answers a slice of these members (nil where a is nil). -/
def RetM (a : Option Addr) (n : Nat) (N A : Nat → ByteArray) (C : Nat → Bool) (e : Ending) (w' : World) : Prop := ∃ a' c', e = .returned (.slice a' n c') ∧ (a' = none → a = none) ∧ Mem w' a' n N A C
set_option maxHeartbeats 400000 in
theorem copy_any (a : Option Addr) (n c : Nat) (N A : Nat → ByteArray) (C : Nat → Bool) (w : World) (hm : Mem w a n N A C) (hn : n ≤ 65536) (hnil : a = none → n = 0) :
    Calls Try.prog 7 #[.slice a n c] w fun e w' => RetM a n N A C e w' ∧ Below w.heap.size w w' := by
  have hnl := fun (w : World) (a : Option Addr) (n c : Nat) => Lib.run_eql_slice_nil (P := Try.prog) w 22 28 a n c 0 0 Try.underlying22
  have hmk := make3 (P := Try.prog) Try.underlying22 info28 n hn
  have HM := hid hm
  clear hm
  cases a with
  | none =>
    obtain rfl := hnil rfl
    go_enter Try.func7, Try.ntmps7
    go_wp2
    go_ret
    exact ⟨⟨none, _, rfl, fun _ => rfl, .inl rfl⟩, Below.refl _ _⟩
  | some ad =>
    go_enter Try.func7, Try.ntmps7
    go_wp2
    go_loopw [4] (fun i wr => ∃ (k : Nat) (cur : Array Value), k ≤ n ∧ i = .int .i64 k ∧ Hid (Filled cur n k N A C) ∧ wr = w.alloc (.cells cur 28)) (fun i _ => n - (intOf i).toNat)
    case atStart => exact ⟨0, _, Nat.zero_le _, rfl, ⟨Z3_size n, fun i hi => by omega⟩, rfl⟩
    case round =>
      obtain ⟨k, cur, hk, rfl, hf, rfl⟩ := hrel
      by_cases hlt : k < n
      · obtain ⟨b, o, e, h1, h2, h3⟩ := HM.out.at hlt
        obtain rfl : ad = ⟨b, o, none⟩ := by simpa using e
        clear e hnil
        have hb : b < w.heap.size := block_lt_of_cell h1
        have hne : ¬ b = w.heap.size := by omega
        obtain ⟨u0, u1, u2, g0, g1, g2⟩ := hf.out.at hlt
        have hlt' : (k : Int) < (n : Int) := by omega
        go_wp2
        go_roundw
        case rel => exact ⟨k + 1, _, by omega, by go_num, hf.out.step hlt, rfl⟩
        case measure => simp [intOf]; omega
      · obtain rfl : k = n := by omega
        go_wp2
        go_ret
        exact ⟨⟨_, _, rfl, (fun h => by cases h), hf.out.mem w 28⟩, (Below.refl _ _).alloc (Nat.le_refl _) _⟩
set_option maxHeartbeats 400000 in
theorem store_any (a : Option Addr) (n c : Nat) (N A : Nat → ByteArray) (C : Nat → Bool) (w : World) (hm : Mem w a n N A C) (hn : n ≤ 65536) (hnil : a = none → n = 0) :
    Calls Try.prog 8 #[.slice a n c] w fun e w' => RetM a n N A C e w' ∧ Below w.heap.size w w' := by
  have hnl := fun (w : World) (a : Option Addr) (n c : Nat) => Lib.run_eql_slice_nil (P := Try.prog) w 22 28 a n c 0 0 Try.underlying22
  have hmk := make3 (P := Try.prog) Try.underlying32 info40 n hn
  have HM := hid hm
  clear hm
  cases a with
  | none =>
    obtain rfl := hnil rfl
    go_enter Try.func8, Try.ntmps8
    go_wp2
    go_ret
    exact ⟨⟨none, _, rfl, fun _ => rfl, .inl rfl⟩, Below.refl _ _⟩
  | some ad =>
    go_enter Try.func8, Try.ntmps8
    go_wp2
    go_loopw [4] (fun i wr => ∃ (k : Nat) (cur : Array Value), k ≤ n ∧ i = .int .i64 k ∧ Hid (Filled cur n k N A C) ∧ ∃ q, wr = (w.alloc (.cells cur 40)).drewN q) (fun i _ => n - (intOf i).toNat)
    case atStart => exact ⟨0, _, Nat.zero_le _, rfl, ⟨Z3_size n, fun i hi => by omega⟩, 0, rfl⟩
    case round =>
      obtain ⟨k, cur, hk, rfl, hf, q, rfl⟩ := hrel
      by_cases hlt : k < n
      · obtain ⟨b, o, e, h1, h2, h3⟩ := HM.out.at hlt
        obtain rfl : ad = ⟨b, o, none⟩ := by simpa using e
        clear e hnil
        have hb : b < w.heap.size := block_lt_of_cell h1
        have hne : ¬ b = w.heap.size := by omega
        obtain ⟨u0, u1, u2, g0, g1, g2⟩ := hf.out.at hlt
        have hlt' : (k : Int) < (n : Int) := by omega
        go_wp2
        go_region
        go_wp2
        go_roundw
        case rel => exact ⟨k + 1, _, by omega, by go_num, hf.out.step hlt, _, set3 _ _ _ _ _ _ _ _ _ _⟩
        case measure => simp [intOf]; omega
      · obtain rfl : k = n := by omega
        go_wp2
        go_ret
        exact ⟨⟨_, _, rfl, (fun h => by cases h), hf.out.mem w 40⟩, below_drewN ((Below.refl _ _).alloc (Nat.le_refl _) _) _⟩
end Go.Proofs.Qxb6604347a
