import Derived.Test.Qxb6603508aRows
import Derived.Test.Qxb6603508aLaw
import Derived.WalkKit
import Derived.ProofKit
import Derived.OpenShut
import Derived.ChangeOld
import Derived.Below
import Derived.Carry
namespace Go.Proofs.Qxb6603508a
open Go.ChangeShapes Go.WideShapes Go.ChangeAt Go.RowKit

theorem own : ownKnob Try.prog.godebug = none := by kernel_rfl
theorem laidOut : laidOutB Try.prog = true := by kernel_rfl
theorem cells22 : Try.prog.cellsOf 22 = 16 := by kernel_rfl
theorem cells5 : Try.prog.cellsOf 5 = 1 := by kernel_rfl

theorem okWide_arr {P : Program} {w : World} {r : _} {base : Nat} {t : TypeId} {v : Value} {n : Nat} {e : TypeId} (ht : P.underlying t = some (.array n e)) (h : Value.okWide P w r base t v) : ∃ cs, v = .agg cs ∧ cs.size = P.cellsOf t := by
  simp only [Value.okWide, ht] at h
  obtain ⟨cs, h1, h2, _⟩ := h
  exact ⟨cs, h1, h2⟩

/-- An id that came in: sixteen bytes. -/
theorem open_id {H : Type} {enc : TypeId × Value → H} {W : World} {r : _} {base b : Nat} {g : Nat → Bool} {v : Value} {d : DataW H} {p : List MemPlace} (hv : Value.okWide Try.prog W r base 22 v)
    (h : DataW.Trod enc Try.prog W b g true 22 v d p) : ∃ l : List UInt8, l.length = 16 ∧ v = .agg (cs l) := by
  obtain ⟨c, rfl, hc⟩ := okWide_arr Try.underlying22 hv
  rw [cells22] at hc
  obtain ⟨fuel, hf⟩ := h
  obtain ⟨xs, m, -, -, -, hx, hall⟩ := DataW.trod_array Try.underlying22 hf
  have hcell : ∀ i, i < 16 → ∃ n : Int, c[i]? = some (.int .u8 n) ∧ 0 ≤ n ∧ n < 256 := by
    intro i hi
    have h1 := hall i hi
    rw [List.getElem?_eq_getElem (by omega)] at h1
    obtain ⟨n, e1, -, e3⟩ := DataW.trod_int Try.underlying5 h1
    rw [cells5] at e1
    refine ⟨n, ?_, ?_⟩
    · have h2 : (List.take 1 (List.drop (i * 1) (Value.agg c).cells.toList))[0]? = some (.int .u8 n) := by rw [e1]; rfl
      simpa [Value.cells] using h2
    · have := bounds_u8 e3
      omega
  refine ⟨(List.range 16).map fun i => UInt8.ofNat (intOf (c[i]?.getD undef)).toNat, by simp, ?_⟩
  congr 1
  unfold cs
  apply Array.ext_getElem?
  intro i
  simp only [List.getElem?_toArray, List.getElem?_map, List.map_map]
  by_cases hi : i < 16
  · obtain ⟨n, e1, e2, e3⟩ := hcell i hi
    rw [List.getElem?_range hi]
    simp only [Option.map_some, Function.comp_apply, e1, Option.getD_some, intOf]
    congr 2
    rw [UInt8.toNat_ofNat']
    omega
  · rw [Array.getElem?_eq_none (by omega)]
    simp [List.getElem?_eq_none (l := List.range 16) (i := i) (by simp; omega)]

set_option maxRecDepth 100000 in
theorem lifted (os : Os) (started : os.Started) (H : Type) (enc : TypeId × Value → H) :
    ReturnsInHanded {} Try.checked os 4 .any (Rows.fnClusterIDMarshalTextDecodesBackInOrderSpec.pre6 enc Try.prog Try.f4 Rows.fnClusterIDMarshalTextDecodesBackInOrderRow.domain false) (Rows.fnClusterIDMarshalTextDecodesBackInOrderSpec.post enc Try.prog Try.f4 false true false false) := by
  refine returnsInHanded_of_change (C := Try.checked) own started (by kernel_rfl) Try.func4
    (ChangeSpec.witness6 (enc := enc) (C := Try.checked) false ⟨#[], #[.agg (Array.replicate 16 (.int .u8 0)), .agg (Array.replicate 16 (.int .u8 0))], []⟩ 8 (by kernel_rfl) (by kernel_rfl) (by kernel_rfl) (by kernel_rfl)) ?_
  intro W base args ds gs before hval0 hW hcnd _
  have hval : ∀ (j : Nat) t v, Try.f4.params[j]? = some t → args[j]? = some v → Value.okWide Try.prog W .any base t v := hval0
  have hW' := hW
  obtain ⟨p, q, hA0, hV, rfl, hfz, hnd⟩ := hW
  have hA : DataW.TrodAll enc Try.prog W 0 (fun _ => true) true Try.f4.params.toList args.toList ds p := hA0
  rw [Try.params4] at hA hval
  obtain ⟨v0, vs0, d0, ds0, p0, q0, hargs, rfl, rfl, h0, r0⟩ := trodAll_cons hA
  obtain ⟨v1, vs1, d1, ds1, p1, q1, rfl, rfl, rfl, h1, r1⟩ := trodAll_cons r0
  obtain ⟨rfl, rfl, rfl⟩ := trodAll_nil r1
  obtain rfl : args = #[v0, v1] := by cases args; simp_all
  obtain ⟨rfl, rfl⟩ := trodVars_none hV
  have lt0 : ∀ x ∈ p0, x.block < W.heap.size := by obtain ⟨m, hm⟩ := h0; exact DataW.trod_lt m _ _ _ hm
  have lt1 : ∀ x ∈ p1, x.block < W.heap.size := by obtain ⟨m, hm⟩ := h1; exact DataW.trod_lt m _ _ _ hm
  obtain ⟨a, ha, rfl⟩ := open_id (hval 0 22 v0 rfl rfl) h0
  obtain ⟨b, hb, rfl⟩ := open_id (hval 1 22 v1 rfl rfl) h1
  clear hA0 hval0
  refine (walk a b ha hb W).mono fun e W' ⟨he, bel⟩ => ?_
  subst he
  exact ⟨_, rfl, _, _, _, [], _, [], hW', trodAll_mk1 (shut_bool Try.underlying4 _), (trodAll_cons_mk (Below.trod laidOut (by kernel_rfl) (of_decide_eq_true (by kernel_rfl)) h0 bel lt0) (trodAll_cons_mk (Below.trod laidOut (by kernel_rfl) (of_decide_eq_true (by kernel_rfl)) h1 bel lt1) trodAll_mk0)), rfl, bel.frame _, fun h => by cases h⟩

theorem over : Rows.fnClusterIDMarshalTextDecodesBackInOrderRow.holds Try.pinned (OpenSpec.ofChange Rows.fnClusterIDMarshalTextDecodesBackInOrderSpec) :=
  OpenClaim.holds_of_wide 4 Try.f4 rfl rfl rfl rfl rfl rfl rfl ⟨rfl, rfl, rfl, rfl, rfl⟩ rfl rfl rfl rfl rfl (by kernel_rfl) Try.func4 (by kernel_rfl)
    (of_decide_eq_true (by kernel_rfl)) (by unfold Func.isWrapper; first | (rw [if_pos (by decide +kernel)]; kernel_rfl) | (rw [if_neg (by decide +kernel)]; exact ⟨rfl, rfl⟩))
    (fun os started H enc _ => lifted os started H enc)

theorem decodesBackInOrder : Rows.FnClusterIDMarshalTextDecodesBackInOrderSaid := over
end Go.Proofs.Qxb6603508a
