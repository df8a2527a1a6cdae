import Derived.Test.Qxb6603508aRows
import Derived.Test.Qxb6603508aPlain
import Derived.Test.Qxb6603508aShelf
import Derived.WalkKit
import Derived.WalkSpells
import Derived.WalkLawsBesides
import Derived.Laws.Rows
import Derived.Laws.IdiomStrings
import Derived.Deep.WholeRow
import Derived.Deep.QuietTactic
import Derived.BigQuiet
namespace Go.Proofs.Qxb6603508a
open Go.RowKit
def cs (l : List UInt8) : Array Value := (l.map fun b => Value.int .u8 (b.toNat : Int)).toArray
theorem cs_size (l : List UInt8) : (cs l).size = l.length := by simp [cs]
theorem cs_get (l : List UInt8) (i : Nat) (h : i < l.length) : (cs l)[i]? = some (.int .u8 (atI l i)) := by
  simp [cs, h, atI_get l i h]
set_option maxHeartbeats 400000 in
theorem hexval_any (c d : Int) (h : (48 ≤ c ∧ c ≤ 57 ∧ c = d + 48) ∨ (97 ≤ c ∧ c ≤ 102 ∧ c = d + 87)) (w : World) :
    Calls Try.prog 12 #[.int .u8 c] w fun e w' => e = .returned (.tuple #[.int .u8 d, .bool true]) ∧ w' = w := by
  rcases h with ⟨h1, h2, h3⟩ | ⟨h1, h2, h3⟩
  · obtain rfl : d = c - 48 := by omega
    clear h3
    go_enter Try.func12, Try.ntmps12
    go_wp2
    go_ret2
    exact ⟨rfl, rfl⟩
  · obtain rfl : d = c - 97 + 10 := by omega
    clear h3
    have h4 : ¬ c ≤ 57 := by omega
    go_enter Try.func12, Try.ntmps12
    go_wp2
    go_ret2
    exact ⟨rfl, rfl⟩
/-- What 'out' holds behind k rounds. -/
def dec (l : List UInt8) (k : Nat) : Array Value := cs (l.take k ++ List.replicate (16 - k) 0)
theorem dec_step (l : List UInt8) (k : Nat) (hl : l.length = 16) (hk : k < 16) : (dec l k).setIfInBounds k (.int .u8 (atI l k)) = dec l (k + 1) := by
  rw [atI_get l k (by omega)]
  have e : (l.take k ++ List.replicate (16 - k) 0).set k (l[k]'(by omega)) = l.take (k + 1) ++ List.replicate (16 - (k + 1)) 0 := by
    rw [List.set_append_right _ _ (by simp; omega), List.take_succ_eq_append_getElem (by omega : k < l.length), List.length_take, show k - min k l.length = 0 by omega,
      show 16 - k = (16 - (k + 1)) + 1 by omega, List.replicate_succ, List.set_cons_zero, List.append_assoc]
    rfl
  unfold dec cs
  rw [List.setIfInBounds_toArray, ← e, List.map_set]
theorem dec_at (l : List UInt8) (k : Nat) (hl : l.length = 16) (hk : k < 16) : (dec l k)[k]? = some (.int .u8 0) := by
  unfold dec cs
  rw [List.getElem?_toArray, List.getElem?_map, List.getElem?_append_right (by simp; omega), List.getElem?_replicate]
  rw [if_pos (by simp; omega)]
  rfl
theorem dec_end (l : List UInt8) (hl : l.length = 16) : dec l 16 = cs l := by
  unfold dec; rw [List.take_of_length_le (by omega)]; simp
theorem cs_one (l : List UInt8) : (cs l).all (·.oneCell') = true := by
  unfold cs
  rw [Array.all_eq_true_iff_forall_mem]
  intro v hv
  simp at hv
  obtain ⟨b, _, rfl⟩ := hv
  rfl
theorem info22 : (Try.prog.info? 22).map (·.size) = some 16 := by kernel_rfl
theorem or_nib (d d' : Int) (g5 : 0 ≤ d) (g6 : d < 16) (g7 : 0 ≤ d') (g8 : d' < 16) : bits BinOp.or IntKind.u8 (d * 16) d' = d * 16 + d' := by
  have h : ∀ d d' : Fin 16, bits BinOp.or IntKind.u8 ((d.val : Int) * 16) (d'.val : Int) = (d.val : Int) * 16 + (d'.val : Int) := by decide +kernel
  obtain ⟨a, rfl⟩ := Int.eq_ofNat_of_zero_le g5
  obtain ⟨b, rfl⟩ := Int.eq_ofNat_of_zero_le g7
  exact h ⟨a, by omega⟩ ⟨b, by omega⟩
theorem hid {p : Prop} (h : p) : Hid p := h
theorem setRow_alloc2 (w : World) (c c' : Array Value) (t : TypeId) (o : Obj) : ((w.alloc (.cells c t)).alloc o).setRow w.heap.size c' = (w.alloc (.cells c' t)).alloc o := by
  have h := World.setRow_alloc_new w c c' t
  simp only [World.setRow, World.alloc] at h ⊢
  simp only [World.mk.injEq, and_true] at h ⊢
  rw [← h]
  apply Array.ext_getElem?
  intro i
  simp only [Array.getElem?_modify, Array.getElem?_push, Array.size_push, Array.size_modify]
  by_cases h1 : i = w.heap.size + 1
  · subst h1; simp
  · simp [h1]
theorem dec_size (l : List UInt8) (k : Nat) (hl : l.length = 16) (hk : k ≤ 16) : (dec l k).size = 16 := by
  unfold dec; rw [cs_size]; simp; omega
theorem enc_hi (l : List UInt8) (k : Nat) (hl : l.length = 16) (hk : k < 16) : ∃ c d c' d' : Int, atI (Lib.Hx.encode l) (2 * k) = c ∧ atI (Lib.Hx.encode l) (2 * k + 1) = c' ∧
   ((48 ≤ c ∧ c ≤ 57 ∧ c = d + 48) ∨ (97 ≤ c ∧ c ≤ 102 ∧ c = d + 87)) ∧ ((48 ≤ c' ∧ c' ≤ 57 ∧ c' = d' + 48) ∨ (97 ≤ c' ∧ c' ≤ 102 ∧ c' = d' + 87)) ∧ 0 ≤ d ∧ d < 16 ∧ 0 ≤ d' ∧ d' < 16 ∧ atI l k = d * 16 + d' := by
  have hb : l[k]? = some (l[k]'(by omega)) := List.getElem?_eq_getElem (by omega)
  have h := Lib.Hx.encode_at l k _ hb
  have hu := (l[k]'(by omega)).toNat_lt
  have h1 := dig_val ((l[k]'(by omega)).toNat / 16) (by omega)
  have h2 := dig_val ((l[k]'(by omega)).toNat % 16) (by omega)
  refine ⟨_, (((l[k]'(by omega)).toNat / 16 : Nat) : Int), _, (((l[k]'(by omega)).toNat % 16 : Nat) : Int), rfl, rfl, ?_, ?_, ?_, ?_, ?_, ?_, ?_⟩
  · unfold atI; rw [h.1]; simp only [Option.getD_some]; omega
  · unfold atI; rw [h.2]; simp only [Option.getD_some]; omega
  · omega
  · omega
  · omega
  · omega
  · rw [atI_get l k (by omega)]; omega
set_option maxHeartbeats 400000 in
theorem decode_any (bt ct : Nat) (l : List UInt8) (hl : l.length = 16) (w : World) (hbt : bt < w.heap.size)
    (hc : ∀ i, i < 32 → w.cell? ⟨bt, i, none⟩ = some (.int .u8 (atI (Lib.Hx.encode l) i))) :
    Calls Try.prog 8 #[.slice (some ⟨bt, 0, none⟩) 32 ct] w fun e w' => e = .returned (.tuple #[.agg (cs l), .bool true]) ∧ Below w.heap.size w w' := by
  have HL : Hid (l.length = 16) := hl
  have HC : Hid (∀ i, i < 32 → w.cell? ⟨bt, i, none⟩ = some (.int .u8 (atI (Lib.Hx.encode l) i))) := hc
  clear hl hc
  go_enter Try.func8, Try.ntmps8
  go_wp2
  go_loopw [5] (fun i wr => ∃ k : Nat, ∃ c0 : Array Value, c0.size = 16 ∧ k ≤ 16 ∧ i = .int .i64 k ∧ wr = (w.alloc (.cells c0 22)).alloc (.cells (dec l k) 22)) (fun i _ => 16 - (intOf i).toNat)
  case atStart => exact ⟨0, _, rfl, Nat.zero_le _, rfl, rfl⟩
  case round =>
    obtain ⟨k, c0, h0, hk, rfl, rfl⟩ := hrel
    have H0 : Hid (c0.size = 16) := h0
    clear h0
    by_cases hlt : k < 16
    · obtain ⟨c, d, c', d', g1, g2, g3, g4, g5, g6, g7, g8, g9⟩ := enc_hi l k HL.out hlt
      have hx := HC.out (2 * k) (by omega)
      have hy := HC.out (2 * k + 1) (by omega)
      rw [g1] at hx
      rw [g2] at hy
      clear g1 g2
      have hlt' : (k : Int) < 16 := by omega
      have hold := dec_at l k HL.out hlt
      have hne : ¬ bt = w.heap.size := by omega
      have hne1 : ¬ bt = w.heap.size + 1 := by omega
      have G9 : Hid (atI l k = d * 16 + d') := g9
      have G3 := hid g3
      have G4 := hid g4
      clear g9 g3 g4
      go_wp2_with fail
      refine (hexval_any c d G3 _).mono ?_
      rintro e w1 ⟨rfl, rfl⟩
      go_wp2_with fail
      refine (hexval_any c' d' G4 _).mono ?_
      rintro e w1 ⟨rfl, rfl⟩
      go_wp2
      go_roundw
      case rel => exact ⟨k + 1, c0, H0.out, by omega, by go_num, by rw [or_nib d d' g5 g6 g7 g8, ← G9.out, dec_step l k HL.out hlt]⟩
      case measure => simp [intOf]; omega
    · obtain rfl : k = 16 := by omega
      have HI : Hid ((Try.prog.info? 22).map (·.size) = some (dec l 16).size) := by rw [dec_size l 16 HL.out (by omega)]; exact info22
      have HO : Hid (c0.size = (dec l 16).size) := by rw [dec_size l 16 HL.out (by omega)]; exact H0
      have H1 : Hid ((dec l 16).all (·.oneCell') = true) := cs_one _
      go_wp2_with (first
        | refine wpList_load_row rfl 22 _ rfl _ rfl 22 _ (0,0) _ (heap_alloc2_new w _ _) Try.underlying22 rfl HI.out ?_
        | (refine wpList_store_row rfl 22 _ _ rfl _ _ rfl rfl 22 _ (heap_alloc2_old w _ _) HI.out HO.out H1.out ?_; rw [setRow_alloc2]))
      refine bodyPost_ret (v := .tuple #[.agg (cs l), .bool true]) ?_ rfl ⟨rfl, ?_⟩
      · rw [results_cell_tmp Try.results8]
        simp only [Array.getD_eq_getD_getElem?, List.getElem?_toArray, List.getElem?_cons_succ, List.getElem?_cons_zero, Option.getD_some, asAddr]
        rw [Sem.run_pure, Result.andThen_ok, run_loadVar_row _ _ 22 22 _ (0, 0) _ (heap_alloc2_old w _ _) Try.underlying22 rfl HI.out, Result.andThen_ok, dec_end l HL.out]
      · exact ((Below.refl _ _).alloc (Nat.le_refl _) _).alloc (by simp) _
theorem ret_int {k : IntKind} {a b : Int} (h : a = b) : Ending.returned (.int k a) = .returned (.int k b) := by rw [h]
set_option maxHeartbeats 400000 in
theorem cmpBytes_any (ba bb n ca cb : Nat) (s t : List UInt8) (hs : s.length = n) (ht : t.length = n) (hn : n ≤ maxLen) (w : World)
    (hca : ∀ i, i < n → w.cell? ⟨ba, i, none⟩ = some (.int .u8 (atI s i))) (hcb : ∀ i, i < n → w.cell? ⟨bb, i, none⟩ = some (.int .u8 (atI t i))) :
    Calls Try.prog 9 #[.slice (some ⟨ba, 0, none⟩) n ca, .slice (some ⟨bb, 0, none⟩) n cb] w fun e w' => e = .returned (.int .i64 (cmpL s t)) ∧ ∃ m, w' = w.drewN m := by
  unfold maxLen at hn
  have HS : Hid (s.length = n) := hs
  have HT : Hid (t.length = n) := ht
  have HCA : Hid (∀ i, i < n → w.cell? ⟨ba, i, none⟩ = some (.int .u8 (atI s i))) := hca
  have HCB : Hid (∀ i, i < n → w.cell? ⟨bb, i, none⟩ = some (.int .u8 (atI t i))) := hcb
  clear hs ht hca hcb
  go_enter Try.func9, Try.ntmps9
  go_wp2
  go_loopw [6] (fun i wr => ∃ k m : Nat, k ≤ n ∧ i = .int .i64 k ∧ Hid (cmpL (s.drop k) (t.drop k) = cmpL s t) ∧ wr = w.drewN m) (fun i _ => n - (intOf i).toNat)
  case atStart => exact ⟨0, 0, Nat.zero_le _, rfl, rfl, rfl⟩
  case round =>
    obtain ⟨k, m, hk, rfl, hrel, rfl⟩ := hrel
    by_cases hlt : k < n
    · have hbs := atI_bd s k
      have hbt := atI_bd t k
      have hx := HCA.out k hlt
      have hy := HCB.out k hlt
      have hlt' : (k : Int) < (n : Int) := by omega
      go_wp2
      go_quiet (fail)
      go_wp2
      · go_ret
        exact ⟨ret_int (by rw [← hrel.out, cmp_lt s t k (by rw [HS.out]; omega) (by rw [HT.out]; omega) (by assumption)]), _, World.drewN_drewN _ _ _⟩
      · go_quiet (fail)
        go_wp2
        · go_ret
          exact ⟨ret_int (by rw [← hrel.out, cmp_gt s t k (by rw [HS.out]; omega) (by rw [HT.out]; omega) (by assumption)]), _, by rw [World.drewN_drewN, World.drewN_drewN]⟩
        · have e1 : ¬ atI s k < atI t k := by omega
          have e2 : ¬ atI t k < atI s k := by omega
          go_roundw
          case rel => exact ⟨k + 1, _, by omega, by go_num, by rw [← cmp_eq s t k (by rw [HS.out]; omega) (by rw [HT.out]; omega) e1 e2]; exact hrel, rfl⟩
          case measure => simp [intOf]; omega
    · go_wp2
      go_ret
      exact ⟨ret_int (by rw [← hrel.out, cmp_end s t k (by rw [HS.out]; omega)]), _, rfl⟩

set_option maxHeartbeats 400000 in
theorem cmpIDs_any (s t : List UInt8) (hs : s.length = 16) (ht : t.length = 16) (w : World) :
    Calls Try.prog 10 #[.agg (cs s), .agg (cs t)] w fun e w' => e = .returned (.int .i64 (cmpL s t)) ∧ Below w.heap.size w w' := by
  have HS : Hid (s.length = 16) := hs
  have HT : Hid (t.length = 16) := ht
  clear hs ht
  go_enter Try.func10, Try.ntmps10
  go_wp2
  go_loopw [5] (fun i wr => ∃ k m : Nat, k ≤ 16 ∧ i = .int .i64 k ∧ Hid (cmpL (s.drop k) (t.drop k) = cmpL s t) ∧ wr = ((w.alloc (.cells (cs s) 22)).alloc (.cells (cs t) 22)).drewN m) (fun i _ => 16 - (intOf i).toNat)
  case atStart => exact ⟨0, 0, Nat.zero_le _, rfl, rfl, rfl⟩
  case round =>
    obtain ⟨k, m, hk, rfl, hrel, rfl⟩ := hrel
    by_cases hlt : k < 16
    · have hbs := atI_bd s k
      have hbt := atI_bd t k
      have hx := cs_get s k (by rw [HS.out]; exact hlt)
      have hy := cs_get t k (by rw [HT.out]; exact hlt)
      have hlt' : (k : Int) < 16 := by omega
      go_wp2
      go_quiet (fail)
      go_wp2
      · go_ret
        exact ⟨ret_int (by rw [← hrel.out, cmp_lt s t k (by rw [HS.out]; omega) (by rw [HT.out]; omega) (by assumption)]), by repeat (first | exact Below.refl _ _ | refine below_drewN ?_ _ | refine Below.alloc ?_ (by simp) _)⟩
      · go_quiet (fail)
        go_wp2
        · go_ret
          exact ⟨ret_int (by rw [← hrel.out, cmp_gt s t k (by rw [HS.out]; omega) (by rw [HT.out]; omega) (by assumption)]), by repeat (first | exact Below.refl _ _ | refine below_drewN ?_ _ | refine Below.alloc ?_ (by simp) _)⟩
        · have e1 : ¬ atI s k < atI t k := by omega
          have e2 : ¬ atI t k < atI s k := by omega
          go_roundw
          case rel => exact ⟨k + 1, _, by omega, by go_num, by rw [← cmp_eq s t k (by rw [HS.out]; omega) (by rw [HT.out]; omega) e1 e2]; exact hrel, rfl⟩
          case measure => simp [intOf]; omega
    · go_wp2
      go_ret
      exact ⟨ret_int (by rw [← hrel.out, cmp_end s t k (by rw [HS.out]; omega)]), by repeat (first | exact Below.refl _ _ | refine below_drewN ?_ _ | refine Below.alloc ?_ (by simp) _)⟩
set_option maxHeartbeats 400000 in
theorem string_any (l : List UInt8) (hl : l.length = 16) (w : World) :
    Calls Try.prog 7 #[.agg (cs l)] w fun e w' => e = .returned (.string ⟨(Lib.Hx.encode l).toArray⟩) ∧ Below w.heap.size w w' := by
  have HL : Hid (l.length = 16) := hl
  clear hl
  go_enter Try.func7, Try.ntmps7
  go_wp2_with fail
  have hc := Try.hex_EncodeToString_bytes w.heap.size 0 16 l (w.alloc (.cells (cs l) 23))
    (fun i h => by rw [cell_of_row _ _ _ _ _ _ (heap_alloc_new w _), Nat.zero_add, cs_get l i h, atI_get l i h]) (by simp) (by rw [HL.out]; decide)
  rw [HL.out] at hc
  refine hc.mono ?_
  clear hc
  rintro e w1 ⟨rfl, hb⟩
  have HB : Hid (Below (w.alloc (.cells (cs l) 23)).heap.size (w.alloc (.cells (cs l) 23)) w1) := hb
  clear hb
  go_wp2
  go_ret
  exact ⟨rfl, ((Below.refl _ _).alloc (Nat.le_refl _) _).trans (HB.out.mono (by simp))⟩
theorem info23 : (Try.prog.info? 23).map (·.size) = some 16 := by kernel_rfl
/-- '[]byte(s)': a new row that holds the bytes. -/
theorem conv_any (w1 : World) (t : List UInt8) (n : Nat) (ht : t.length = n) : ∃ (c : Nat) (W : World), (convert 9 24 (.string ⟨t.toArray⟩)).run Try.prog w1 = .ok (.slice (some ⟨w1.heap.size, 0, none⟩) n c) W ∧
    (∀ i, i < n → W.cell? ⟨w1.heap.size, i, none⟩ = some (.int .u8 (atI t i))) ∧ Below w1.heap.size w1 W ∧ W.heap.size = w1.heap.size + 1 := by
  subst ht
  refine ⟨grownCap w1 t.length 0 5, _, run_bytes_of_string (P := Try.prog) w1 9 24 5 ⟨t.toArray⟩ Try.underlying9 Try.underlying24 Try.underlying5, ?_, ?_, ?_⟩
  · intro i hi
    refine (cell_of_row _ _ _ _ _ _ (heap_alloc_new w1.drew _)).trans ?_
    simp only [bytesRow]
    rw [Array.getElem?_append_left (by simpa using hi)]
    simp [hi, atI_get t i hi]
  · exact ((Below.refl _ _).drew).alloc (Nat.le_refl _) _
  · simp
set_option maxHeartbeats 400000 in
theorem marshal_any (l : List UInt8) (hl : l.length = 16) (w : World) :
    Calls Try.prog 5 #[.agg (cs l)] w fun e w' => ∃ b c, w.heap.size ≤ b ∧ b < w'.heap.size ∧ e = .returned (.tuple #[.slice (some ⟨b, 0, none⟩) 32 c, .nilIface]) ∧
      (∀ i, i < 32 → w'.cell? ⟨b, i, none⟩ = some (.int .u8 (atI (Lib.Hx.encode l) i))) ∧ Below w.heap.size w w' := by
  have HL : Hid (l.length = 16) := hl
  have hi : (Try.prog.info? 23).map (·.size) = some (cs l).size := by rw [cs_size, hl, info23]
  clear hl
  have HI : Hid ((Try.prog.info? 23).map (·.size) = some (cs l).size) := hi
  clear hi
  go_enter Try.func5, Try.ntmps5
  go_wp2_with (refine wpList_load_row rfl 23 _ rfl _ rfl 23 _ (0,0) _ (heap_alloc_new w _) Try.underlying23 rfl HI.out ?_)
  refine (string_any l HL.out _).mono ?_
  rintro e w1 ⟨rfl, hb⟩
  obtain ⟨c, W, hcv, hce, hbl, hsz⟩ := conv_any w1 (Lib.Hx.encode l) 32 (by rw [Lib.Hx.encode_length, HL.out])
  have HCE := hid hce
  have HBL := hid hbl
  have HSZ := hid hsz
  have HB := hid hb
  clear hce hbl hsz hb
  go_wp2
  go_ret2
  have hb := HB.out
  have hs := hb.size
  simp at hs
  exact ⟨_, _, by omega, by rw [HSZ.out]; omega, rfl, HCE.out, (((Below.refl _ w).alloc (Nat.le_refl _) _).trans (hb.mono (by simp))).trans (HBL.out.mono (by omega))⟩
end Go.Proofs.Qxb6603508a
