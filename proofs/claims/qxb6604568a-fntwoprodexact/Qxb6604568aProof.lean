import Derived.Test.Qxb6604568aRows
import Derived.Test.Qxb6604568aW4
import Derived.WalkKit
import Derived.ProofKit
import Derived.OpenShut
import Derived.ChangeOld
import Derived.Below
import Derived.Carry
import Derived.Laws.Cover2
namespace Go.Proofs.Qxb6604568a
open Go.ChangeShapes Go.WideShapes Go.ChangeAt Go.RowKit
open Ieee (double Datum)

theorem own : ownKnob Try.prog.godebug = none := by kernel_rfl

/-- Whatever the two words are. -/
theorem walk (a b : Nat) (ha : a < 18446744073709551616) (hb : b < 18446744073709551616) (w : World) :
    Calls Try.prog 3 #[.float .f64 a, .float .f64 b] w fun e w' => e = .returned (.bool true) ∧ Below w.heap.size w w' := by
  cases h1 : double.read a with
  | nan s f => exact walk_nan a b w (.inl ⟨s, f, h1⟩)
  | infinity s =>
    cases h2 : double.read b with
    | nan t f => exact walk_nan a b w (.inr ⟨.inl ⟨s, h1⟩, t, f, h2⟩)
    | infinity t => exact walk_inf a b w (.inl ⟨⟨s, h1⟩, .inl ⟨t, h2⟩⟩)
    | number t n j => exact walk_inf a b w (.inl ⟨⟨s, h1⟩, .inr ⟨t, n, j, h2⟩⟩)
  | number s m i =>
    cases h2 : double.read b with
    | nan t f => exact walk_nan a b w (.inr ⟨.inr ⟨s, m, i, h1⟩, t, f, h2⟩)
    | infinity t => exact walk_inf a b w (.inr ⟨⟨s, m, i, h1⟩, t, h2⟩)
    | number t n j =>
      rcases Nat.eq_zero_or_pos m with hm | hm
      · exact walk_zero a b w s t m n i j h1 h2 (.inl hm)
      · rcases Nat.eq_zero_or_pos n with hn | hn
        · exact walk_zero a b w s t m n i j h1 h2 (.inr ⟨hm, hn⟩)
        · exact walk_num a b w s t m n i j ha hb h1 h2 hm hn

theorem wf_lt {b : Nat} (h : (Lit.float .f64 b).wf = true) : b < 18446744073709551616 := by
  simpa [Lit.wf] using h

set_option maxRecDepth 100000 in
theorem lifted (os : Os) (started : os.Started) (H : Type) (enc : TypeId × Value → H) :
    ReturnsInHanded {} Try.checked os 3 .any (Rows.fnTwoProdExactSpec.pre6 enc Try.prog Try.f3 Rows.fnTwoProdExactRow.domain false) (Rows.fnTwoProdExactSpec.post enc Try.prog Try.f3 false true false false) := by
  refine returnsInHanded_of_change (C := Try.checked) own started (by kernel_rfl) Try.func3
    (ChangeSpec.witness6 (enc := enc) (C := Try.checked) false ⟨#[], #[.float .f64 0, .float .f64 0], []⟩ 8 (by kernel_rfl) (by kernel_rfl) (by kernel_rfl) (by kernel_rfl)) ?_
  intro W base args ds gs before hval0 hW hcnd _
  have hval : ∀ (j : Nat) t v, Try.f3.params[j]? = some t → args[j]? = some v → Value.okWide Try.prog W .any base t v := hval0
  have hW' := hW
  obtain ⟨p, q, hA0, hV, rfl, hfz, hnd⟩ := hW
  have hA : DataW.TrodAll enc Try.prog W 0 (fun _ => true) true Try.f3.params.toList args.toList ds p := hA0
  rw [Try.params3] at hA hval
  obtain ⟨v0, vs0, d0, ds0, p0, q0, hargs, rfl, rfl, h0, r0⟩ := trodAll_cons hA
  obtain ⟨v1, vs1, d1, ds1, p1, q1, rfl, rfl, rfl, h1, r1⟩ := trodAll_cons r0
  obtain ⟨rfl, rfl, rfl⟩ := trodAll_nil r1
  obtain rfl : args = #[v0, v1] := by cases args; simp_all
  obtain ⟨rfl, rfl⟩ := trodVars_none hV
  obtain ⟨a, rfl, rfl, rfl, wa⟩ := open_float Try.underlying22 (hval 0 22 v0 rfl rfl) h0
  obtain ⟨b, rfl, rfl, rfl, wb⟩ := open_float Try.underlying22 (hval 1 22 v1 rfl rfl) h1
  clear hA0 hval0
  refine (walk a b (wf_lt wa) (wf_lt wb) W).mono fun e W' ⟨he, bel⟩ => ?_
  subst he
  exact ⟨_, rfl, _, _, _, [], _, [], hW', trodAll_mk1 (shut_bool Try.underlying4 _), (trodAll_cons_mk (shut_float Try.underlying22 wa) (trodAll_cons_mk (shut_float Try.underlying22 wb) trodAll_mk0)), rfl, bel.frame _, fun h => by cases h⟩

theorem over : Rows.fnTwoProdExactRow.holds Try.pinned (OpenSpec.ofChange Rows.fnTwoProdExactSpec) :=
  OpenClaim.holds_of_wide 3 Try.f3 rfl rfl rfl rfl rfl rfl rfl ⟨rfl, rfl, rfl, rfl, rfl⟩ rfl rfl rfl rfl rfl (by kernel_rfl) Try.func3 (by kernel_rfl)
    (of_decide_eq_true (by kernel_rfl)) (by unfold Func.isWrapper; first | (rw [if_pos (by decide +kernel)]; kernel_rfl) | (rw [if_neg (by decide +kernel)]; exact ⟨rfl, rfl⟩))
    (fun os started H enc _ => lifted os started H enc)

theorem twoProdExact : Rows.FnTwoProdExactSaid := over
end Go.Proofs.Qxb6604568a
