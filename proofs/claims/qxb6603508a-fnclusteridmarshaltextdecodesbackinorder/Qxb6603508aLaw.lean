import Derived.Test.Qxb6603508aWalks
import Derived.Laws.StructEq
import Derived.Deep.RegionHeld3
namespace Go.Proofs.Qxb6603508a
open Go.RowKit
theorem forIn_yields {P : Program} {w : World} (f : Nat → Option Bool × Unit → Sem (ForInStep (Option Bool × Unit))) : ∀ (L : List Nat), (∀ i ∈ L, (f i (none, ())).run P w = .ok (.yield (none, ())) w) →
    (forIn L (none, ()) f).run P w = .ok (none, ()) w
  | [], _ => by simp
  | i :: L, h => by
    rw [List.forIn_cons, Sem.run_bind, h i (by simp), Result.andThen_ok]
    exact forIn_yields f L (fun j hj => h j (by simp [hj]))
theorem eq_cs (l : List UInt8) (hl : l.length = 16) (w : World) : (Op.equalIn 10000 22 (.agg (cs l)) (.agg (cs l))).run Try.prog w = .ok true w := by
  have hpart : ∀ i, i < 16 → (part 5 (cs l) i).run Try.prog w = .ok (.int .u8 (atI l i)) w := by
    intro i hi
    simp [part, cs_get l i (by omega), Try.isAgg5, Sem.run_bind]
  have hs : (sizeOf 5).run Try.prog w = .ok 1 w := Try.sizeOf5 w
  rw [Op.equalIn]
  simp [Sem.run_bind, run_underlying Try.underlying22 w, hs]
  rw [forIn_yields]
  · simp
  · intro i hi
    have hi' : i < 16 := by simpa using hi
    simp [Sem.run_bind, hpart i hi', run_equalIn_int w 9998 5 .u8 .u8 _ _ Try.underlying5]
theorem neq_cs (l : List UInt8) (hl : l.length = 16) (w : World) : (binOp .neq 22 (.agg (cs l)) (.agg (cs l))).run Try.prog w = .ok (.bool false) w := by
  rw [run_neq_struct, eq_cs l hl w]; rfl
theorem heap_of_below {B : Nat} {w w' : World} (h : Below B w w') {k : Nat} {o : Obj} (hk : k < B) (ho : w.heap[k]? = some o) : w'.heap[k]? = some o := (h.block k hk).trans ho
theorem wpList_load_row_g {P : Program} {ops : Array Oper} {rest : List Oper} {o : Oper} {a : Act} {w : World} {Q : Exit → Act → World → Prop} (hgd : Region.wanted o (yielded ops a.tmps) = true) (ty : TypeId) (x : Operand) (ho : o.op = .load ty x)
    (g : Nat) (hx : a.eval x = .pointer (some ⟨g, 0, none⟩)) (t : TypeId) (cs : Array Value) (fr : Nat × Nat) (d : TypeDesc) (hg : w.heap[g]? = some (.cells cs t fr))
    (hu : P.underlying ty = some d) (hd : (match d with | .struct _ | .array _ _ => true | _ => false) = true) (hi : (P.info? ty).map (·.size) = some cs.size)
    (h : wpList P ops Q rest (a.put o.dst (.agg cs)) w) : wpList P ops Q (o :: rest) a w :=
  wpList_step fun K hK => by
    rw [if_pos hgd]
    exact wp_load_row ty x ho g hx t cs fr d hg hu hd hi (hK _ _ h)
def csL (l : List UInt8) : List Value := l.map fun b => Value.int .u8 (b.toNat : Int)
theorem csL_length (l : List UInt8) : (csL l).length = l.length := by simp [csL]
theorem keepS {w5 w' : World} {n : Nat} {a b : List UInt8} (ha : w5.heap[n]? = some (.cells (cs a) 22)) (hb : w5.heap[n + 1]? = some (.cells (cs b) 22)) (hn : n + 1 < w5.heap.size) (h : Below w5.heap.size w5 w') :
    w'.rangeAt n 0 (csL a) ∧ w'.rangeAt (n + 1) 0 (csL b) ∧ Below w5.heap.size w5 w' := by
  refine ⟨fun j v hv => ?_, fun j v hv => ?_, h⟩
  · rw [cell_of_row _ _ _ _ _ _ ((h.block n (by omega)).trans ha), Nat.zero_add]
    simpa [cs, csL] using hv
  · rw [cell_of_row _ _ _ _ _ _ ((h.block (n + 1) hn).trans hb), Nat.zero_add]
    simpa [cs, csL] using hv
theorem cmpIDs_any' (s t : List UInt8) (hs : s.length = 16) (ht : t.length = 16) (w : World) :
    Calls Try.prog 10 #[.agg (csL s).toArray, .agg (csL t).toArray] w fun e w' => e = .returned (.int .i64 (cmpL s t)) ∧ Below w.heap.size w w' := cmpIDs_any s t hs ht w
theorem sz2 (w : World) (A B : Obj) : ((w.alloc A).alloc B).heap.size = w.heap.size + 2 := by simp
set_option maxHeartbeats 400000 in
theorem walk (a b : List UInt8) (ha : a.length = 16) (hb : b.length = 16) (w : World) :
    Calls Try.prog 4 #[.agg (cs a), .agg (cs b)] w fun e w' => e = .returned (.bool true) ∧ Below w.heap.size w w' := by
  have HA := hid ha
  have HB := hid hb
  have HIA : Hid ((Try.prog.info? 22).map (·.size) = some (cs a).size) := by rw [cs_size, ha]; exact info22
  have HIB : Hid ((Try.prog.info? 22).map (·.size) = some (cs b).size) := by rw [cs_size, hb]; exact info22
  clear ha hb
  go_enter Try.func4, Try.ntmps4
  go_wp2_with (refine wpList_load_row rfl 22 _ rfl _ rfl 22 _ (0,0) _ (heap_alloc2_old w _ _) Try.underlying22 rfl HIA.out ?_)
  refine (marshal_any a HA.out _).mono ?_
  rintro e w1 ⟨b1, c1, p1, p2, rfl, p3, p4⟩
  have hh1 : w1.heap[w.heap.size]? = some (.cells (cs a) 22) := heap_of_below p4 (by rw [sz2]; omega) (heap_alloc2_old w _ _)
  have hh2 : w1.heap[w.heap.size + 1]? = some (.cells (cs b) 22) := heap_of_below p4 (by rw [sz2]; omega) (heap_alloc2_new w _ _)
  have P3 := hid p3
  have P4 := hid p4
  have H1 := hid hh1
  have H2 := hid hh2
  clear p3 p4 hh1 hh2
  go_wp2_with (refine wpList_load_row rfl 22 _ rfl _ rfl 22 _ (0,0) _ H2.out Try.underlying22 rfl HIB.out ?_)
  refine (marshal_any b HB.out _).mono ?_
  rintro e w2 ⟨b2, c2, q1, q2, rfl, q3, q4⟩
  have s1 := P4.out.size
  rw [sz2] at s1
  have s2 := q4.size
  have H3 : Hid (w2.heap[w.heap.size]? = some (.cells (cs a) 22)) := heap_of_below q4 (by omega) H1.out
  have H4 : Hid (w2.heap[w.heap.size + 1]? = some (.cells (cs b) 22)) := heap_of_below q4 (by omega) H2.out
  have C1 : Hid (∀ i, i < 32 → w2.cell? ⟨b1, i, none⟩ = some (.int .u8 (atI (Lib.Hx.encode a) i))) := fun i hi => (q4.cell (p := ⟨b1, i, none⟩) p2).trans (P3.out i hi)
  have C2 := hid q3
  have Q4 : Hid (Below w.heap.size w w2) := ((((Below.refl _ w).alloc (Nat.le_refl _) _).alloc (by simp) _).trans (P4.out.mono (by rw [sz2]; omega))).trans (q4.mono (by omega))
  clear q3 q4 H1 H2 P3 P4
  go_wp2_with fail
  refine (decode_any b1 c1 a HA.out w2 (by omega) C1.out).mono ?_
  rintro e w3 ⟨rfl, r1⟩
  have s3 := r1.size
  have H5 : Hid (w3.heap[w.heap.size]? = some (.cells (cs a) 22)) := heap_of_below r1 (by omega) H3.out
  have H6 : Hid (w3.heap[w.heap.size + 1]? = some (.cells (cs b) 22)) := heap_of_below r1 (by omega) H4.out
  have C3 : Hid (∀ i, i < 32 → w3.cell? ⟨b1, i, none⟩ = some (.int .u8 (atI (Lib.Hx.encode a) i))) := fun i hi => (r1.cell (p := ⟨b1, i, none⟩) (by show b1 < _; omega)).trans (C1.out i hi)
  have C4 : Hid (∀ i, i < 32 → w3.cell? ⟨b2, i, none⟩ = some (.int .u8 (atI (Lib.Hx.encode b) i))) := fun i hi => (r1.cell (p := ⟨b2, i, none⟩) (by show b2 < _; omega)).trans (C2.out i hi)
  have Q5 : Hid (Below w.heap.size w w3) := Q4.out.trans (r1.mono (by omega))
  clear r1 H3 H4 C1 C2 Q4
  have H1A : Hid ((cs a).all (·.oneCell') = true) := cs_one _
  have HZA : Hid (16 = (cs a).size) := by rw [cs_size]; exact HA.out.symm
  have H7 : Hid (∀ o, (w3.alloc o).heap[w.heap.size]? = some (.cells (cs a) 22)) := fun o => (Below.heap_alloc w3 o _ (by omega)).trans H5.out
  have nA := fun wx => neq_cs a HA.out wx
  go_wp2_with (first
    | (refine wpList_store_row rfl 22 _ _ rfl _ _ rfl rfl 22 _ (heap_alloc_new w3 _) HIA.out HZA.out H1A.out ?_; rw [World.setRow_alloc_new])
    | refine wpList_load_row_g rfl 22 _ rfl _ rfl 22 _ (0,0) _ (heap_alloc_new w3 _) Try.underlying22 rfl HIA.out ?_
    | refine wpList_load_row_g rfl 22 _ rfl _ rfl 22 _ (0,0) _ (H7.out _) Try.underlying22 rfl HIA.out ?_)
  have HB3 : Hid (∀ o, Below w3.heap.size w3 (w3.alloc o)) := fun o => (Below.refl _ _).alloc (Nat.le_refl _) o
  refine (decode_any b2 c2 b HB.out _ (by simp; omega) (fun i hi => ((HB3.out _).cell (p := ⟨b2, i, none⟩) (by show b2 < _; omega)).trans (C4.out i hi))).mono ?_
  rintro e w5 ⟨rfl, t1⟩
  have Q6 : Hid (Below w3.heap.size w3 w5) := (HB3.out _).trans (t1.mono (by simp))
  have s5 := Q6.out.size
  have H8 : Hid (w5.heap[w.heap.size]? = some (.cells (cs a) 22)) := heap_of_below Q6.out (by omega) H5.out
  have H9 : Hid (w5.heap[w.heap.size + 1]? = some (.cells (cs b) 22)) := heap_of_below Q6.out (by omega) H6.out
  have C5 : Hid (∀ i, i < 32 → w5.cell? ⟨b1, i, none⟩ = some (.int .u8 (atI (Lib.Hx.encode a) i))) := fun i hi => (Q6.out.cell (p := ⟨b1, i, none⟩) (by show b1 < _; omega)).trans (C3.out i hi)
  have C6 : Hid (∀ i, i < 32 → w5.cell? ⟨b2, i, none⟩ = some (.int .u8 (atI (Lib.Hx.encode b) i))) := fun i hi => (Q6.out.cell (p := ⟨b2, i, none⟩) (by show b2 < _; omega)).trans (C4.out i hi)
  have Q7 : Hid (Below w.heap.size w w5) := Q5.out.trans (Q6.out.mono (by omega))
  clear t1 HB3 H5 H6 H7 C3 C4 Q5 Q6 nA H1A HZA
  have H1B : Hid ((cs b).all (·.oneCell') = true) := cs_one _
  have HZB : Hid (16 = (cs b).size) := by rw [cs_size]; exact HB.out.symm
  have H7 : Hid (∀ o, (w5.alloc o).heap[w.heap.size + 1]? = some (.cells (cs b) 22)) := fun o => (Below.heap_alloc w5 o _ (by omega)).trans H9.out
  have nB := fun wx => neq_cs b HB.out wx
  go_wp2_with (first
    | (refine wpList_store_row rfl 22 _ _ rfl _ _ rfl rfl 22 _ (heap_alloc_new w5 _) HIB.out HZB.out H1B.out ?_; rw [World.setRow_alloc_new])
    | refine wpList_load_row_g rfl 22 _ rfl _ rfl 22 _ (0,0) _ (heap_alloc_new w5 _) Try.underlying22 rfl HIB.out ?_
    | refine wpList_load_row_g rfl 22 _ rfl _ rfl 22 _ (0,0) _ (H7.out _) Try.underlying22 rfl HIB.out ?_)
  clear nB H1B HZB
  have hu22 := Try.underlying22
  have hiA : (Try.prog.info? 22).map (·.size) = some (csL a).length := by rw [csL_length, HA.out]; exact info22
  have hiB : (Try.prog.info? 22).map (·.size) = some (csL b).length := by rw [csL_length, HB.out]; exact info22
  have HLA : Hid ((Lib.Hx.encode a).length = 32) := hid (by rw [Lib.Hx.encode_length, HA.out])
  have HLB : Hid ((Lib.Hx.encode b).length = 32) := hid (by rw [Lib.Hx.encode_length, HB.out])
  have HCM : Hid (cmpL (Lib.Hx.encode a) (Lib.Hx.encode b) = cmpL a b) := cmp_encode a b (by rw [HA.out, HB.out])
  have HKA := hid hiA
  have HKB := hid hiB
  clear hiA hiB hu22
  refine wp_region_held_drew (S := fun w' => w'.rangeAt w.heap.size 0 (csL a) ∧ w'.rangeAt (w.heap.size + 1) 0 (csL b) ∧ Below w5.heap.size w5 w') (by kernel_rfl) (keepS H8.out H9.out (by omega) ((Below.refl _ _).alloc (Nat.le_refl _) _).drew) (fun hHeld => ?_)
  refine wpAnyH_take (i := 0) rfl (by kernel_rfl) (by kernel_rfl) (by kernel_rfl) (fun _ _ _ h => h) (Or.inl ⟨rfl, fun _ _ => rfl⟩) hHeld ?_
  refine wpAnyH_take (i := 1) rfl (by kernel_rfl) (by kernel_rfl) (by kernel_rfl) (fun _ _ _ h => h) (Or.inl ⟨rfl, fun _ _ => rfl⟩) hHeld ?_
  refine wpAnyH_take (i := 3) rfl (by kernel_rfl) (by kernel_rfl) (by kernel_rfl) (fun _ _ _ h => h) (yieldsIf_load_mid rfl _ _ rfl _ _ rfl (csL a) _ (fun _ h => h.1) Try.underlying22 rfl HKA.out) hHeld ?_
  refine wpAnyH_take (i := 4) rfl (by kernel_rfl) (by kernel_rfl) (by kernel_rfl) (fun _ _ _ h => h) (yieldsIf_load_mid rfl _ _ rfl _ _ rfl (csL b) _ (fun _ h => h.2.1) Try.underlying22 rfl HKB.out) hHeld ?_
  refine wpAnyH_ready (rs := [2]) (by kernel_rfl) (by simp) ?_
  refine AllReadyH.cons rfl (fun K hK => ?_) AllReadyH.nil
  go_simp
  refine (cmpBytes_any b1 b2 32 c1 c2 (Lib.Hx.encode a) (Lib.Hx.encode b) HLA.out HLB.out (by decide) _ (fun i hi => (hHeld.2.2.cell (p := ⟨b1, i, none⟩) (by show b1 < _; omega)).trans (C5.out i hi)) (fun i hi => (hHeld.2.2.cell (p := ⟨b2, i, none⟩) (by show b2 < _; omega)).trans (C6.out i hi))).mono ?_
  rintro e w6 ⟨rfl, m, rfl⟩
  dsimp only
  refine hK.out _ _ (keepS H8.out H9.out (by omega) (below_drewN hHeld.2.2 _)) (fun hHeld => ?_)
  clear hK K
  refine wpAnyH_ready (rs := [5]) (by kernel_rfl) (by simp) ?_
  refine AllReadyH.cons rfl (fun K hK => ?_) AllReadyH.nil
  go_simp
  refine (cmpIDs_any' a b HA.out HB.out _).mono ?_
  rintro e w7 ⟨rfl, hy⟩
  dsimp only
  have hY : Below w5.heap.size w5 w7 := ((below_drewN ((Below.refl _ _).alloc (Nat.le_refl _) _) _).trans (hy.mono (by simp)))
  have HQ : Hid (Below w.heap.size w w7) := Q7.out.trans (hY.mono (by omega))
  refine hK.out _ _ (keepS H8.out H9.out (by omega) hY) (fun hHeld => ?_)
  clear hK K hy
  refine wpAnyH_take (i := 6) (v := .bool (cmpL (Lib.Hx.encode a) (Lib.Hx.encode b) == cmpL a b)) rfl (by kernel_rfl) (by kernel_rfl) (by kernel_rfl) (fun _ _ _ h => h) (Or.inl ⟨rfl, by intro w _; go_simp⟩) hHeld ?_
  rw [HCM.out, beq_self_eq_true]
  refine wpAnyH_take (i := 7) rfl (by kernel_rfl) (by kernel_rfl) (by kernel_rfl) (fun _ _ _ h => h) (Or.inl ⟨rfl, fun _ _ => rfl⟩) hHeld ?_
  refine wpAnyH_done (by kernel_rfl) ?_ _
  go_wp2
  go_ret
  exact ⟨rfl, HQ.out⟩
end Go.Proofs.Qxb6603508a
