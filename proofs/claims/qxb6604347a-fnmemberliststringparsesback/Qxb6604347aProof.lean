import Derived.Test.Qxb6604347aRows
import Derived.Test.Qxb6604347aLaw
import Derived.WalkKit
import Derived.ProofKit
import Derived.OpenShut
import Derived.ChangeOld
import Derived.Below
import Derived.Carry
import Derived.Deep.Slices
import Derived.Deep.Strs
namespace Go.Proofs.Qxb6604347a
open Go.ChangeShapes Go.WideShapes Go.ChangeAt Go.RowKit

theorem own : ownKnob Try.prog.godebug = none := by kernel_rfl
theorem laidOut : laidOutB Try.prog = true := by kernel_rfl
theorem cells28 : Try.prog.cellsOf 28 = 3 := by kernel_rfl
theorem cells9 : Try.prog.cellsOf 9 = 1 := by kernel_rfl
theorem cells4 : Try.prog.cellsOf 4 = 1 := by kernel_rfl

/-- One member that came in. -/
theorem open_member {H : Type} {enc : TypeId × Value → H} {W : World} {base : Nat} {spare : Nat → Bool} {fuel : Nat} {cs : List Value} {x : DataW H × List MemPlace} (h : DataW.trod enc Try.prog W base spare true fuel 28 cs = some x) :
    ∃ m : ByteArray × ByteArray × Bool, cs = [.string m.1, .string m.2.1, .bool m.2.2] ∧ m.1.size ≤ maxLen ∧ m.2.1.size ≤ maxLen := by
  obtain ⟨y0, y1, y2, n, -, hl, h0, h1, h2⟩ := Deep.trod_struct3 Try.underlying28 h
  rw [cells28] at hl
  obtain ⟨s0, e0, -, b0⟩ := DataW.trod_string Try.underlying9 h0
  obtain ⟨s1, e1, -, b1⟩ := DataW.trod_string Try.underlying9 h1
  obtain ⟨c, e2, -⟩ := DataW.trod_bool Try.underlying4 h2
  refine ⟨(s0, s1, c), ?_, b0, b1⟩
  match cs, hl with
  | [c0, c1, c2], _ =>
    simp [cells9, cells4] at e0 e1 e2
    rw [e0, e1, e2]

/-- The members that came in. -/
theorem open_members {H : Type} {enc : TypeId × Value → H} {W : World} {r : _} {base : Nat} {v : Value} {d : DataW H} {p : List MemPlace} (hv : Value.okWide Try.prog W r base 22 v)
    (h : DataW.Trod enc Try.prog W 0 (fun _ => true) true 22 v d p) : ∃ (a : Option Addr) (n c : Nat) (N A : Nat → ByteArray) (C : Nat → Bool), v = .slice a n c ∧ Mem W a n N A C ∧ (a = none → n = 0) ∧ n ≤ maxLen ∧ (∀ i, (N i).size ≤ maxLen) ∧ (∀ i, (A i).size ≤ maxLen) := by
  obtain ⟨a0, len, cap, rfl⟩ := okWide_slice Try.underlying22 hv
  obtain ⟨fuel, hf⟩ := h
  rcases Deep.open_slice Try.underlying22 hf with ⟨hcs, _⟩ | ⟨a, len', cap', m, n, D, Pl, hcs, hb, hl, hm, hmm, -, hx⟩
  · simp [Value.cells] at hcs
    obtain ⟨rfl, rfl, rfl⟩ := hcs
    exact ⟨none, 0, 0, fun _ => ByteArray.empty, fun _ => ByteArray.empty, fun _ => false, rfl, .inl rfl, fun _ => rfl, Nat.zero_le _, fun _ => Nat.zero_le _, fun _ => Nat.zero_le _⟩
  · simp [Value.cells] at hcs
    obtain ⟨rfl, rfl, rfl⟩ := hcs
    simp only [if_true] at hmm
    subst hmm
    obtain ⟨F, hF⟩ := Deep.choose_lt (α := ByteArray × ByteArray × Bool) (n := len)
      (p := fun i x => W.cell? (a.add (i * 3)) = some (.string x.1) ∧ W.cell? ((a.add (i * 3)).add 1) = some (.string x.2.1) ∧ W.cell? ((a.add (i * 3)).add 2) = some (.bool x.2.2) ∧ x.1.size ≤ maxLen ∧ x.2.1.size ≤ maxLen) (fun i hi => by
        obtain ⟨cs', h1, h2⟩ := hx i (by omega)
        rw [cells28] at h1
        obtain ⟨mm, rfl, b0, b1⟩ := open_member h2
        obtain ⟨-, -, hc⟩ := World.cells?_some h1
        have c0 := hc 0 (by omega)
        rw [show (a.add (i * 3)).add 0 = a.add (i * 3) by simp [Addr.add]] at c0
        exact ⟨mm, c0, hc 1 (by omega), hc 2 (by omega), b0, b1⟩)
    refine ⟨some a, len, _, fun i => if i < len then (F i).1 else ByteArray.empty, fun i => if i < len then (F i).2.1 else ByteArray.empty, fun i => (F i).2.2, rfl, ?_, (fun h => by cases h), by omega, ?_, ?_⟩
    · by_cases h0 : len = 0
      · exact .inl h0
      · obtain ⟨b, o, sp⟩ := a
        have hs : sp = none := by
          have := World.cell?_spot (hF 0 (by omega)).1
          simpa [Addr.add] using this
        subst hs
        refine .inr ⟨b, o, rfl, ?_, fun i hi => ?_⟩
        · have := block_lt_of_cell (hF 0 (by omega)).1
          rwa [Addr.add_mid] at this
        · obtain ⟨h1, h2, h3, -, -⟩ := hF i hi
          simp only [Addr.add_mid] at h1 h2 h3
          simp only [if_pos hi]
          exact ⟨h1, h2, h3⟩
    · intro i
      by_cases hi : i < len
      · simp only [if_pos hi]; exact (hF i hi).2.2.2.1
      · simp only [if_neg hi]; exact Nat.zero_le _
    · intro i
      by_cases hi : i < len
      · simp only [if_pos hi]; exact (hF i hi).2.2.2.2
      · simp only [if_neg hi]; exact Nat.zero_le _

set_option maxRecDepth 100000 in
theorem lifted (os : Os) (started : os.Started) (H : Type) (enc : TypeId × Value → H) :
    ReturnsInHanded {} Try.checked os 3 .any (Rows.fnMemberListStringParsesBackSpec.pre6 enc Try.prog Try.f3 Rows.fnMemberListStringParsesBackRow.domain false) (Rows.fnMemberListStringParsesBackSpec.post enc Try.prog Try.f3 false true false false) := by
  refine returnsInHanded_of_change (C := Try.checked) own started (by kernel_rfl) Try.func3
    (ChangeSpec.witness6 (enc := enc) (C := Try.checked) false ⟨#[], #[.slice none 0 0, .int .u64 0, .int .u64 0], []⟩ 8 (by kernel_rfl) (by kernel_rfl) (by kernel_rfl) (by kernel_rfl)) ?_
  intro W base args ds gs before hval0 hW hcnd _
  have hval : ∀ (j : Nat) t v, Try.f3.params[j]? = some t → args[j]? = some v → Value.okWide Try.prog W .any base t v := hval0
  have hW' := hW
  obtain ⟨p, q, hA0, hV, rfl, hfz, hnd⟩ := hW
  have hA : DataW.TrodAll enc Try.prog W 0 (fun _ => true) true Try.f3.params.toList args.toList ds p := hA0
  rw [Try.params3] at hA hval
  obtain ⟨v0, vs0, d0, ds0, p0, q0, hargs, rfl, rfl, h0, r0⟩ := trodAll_cons hA
  obtain ⟨v1, vs1, d1, ds1, p1, q1, rfl, rfl, rfl, h1, r1⟩ := trodAll_cons r0
  obtain ⟨v2, vs2, d2, ds2, p2, q2, rfl, rfl, rfl, h2, r2⟩ := trodAll_cons r1
  obtain ⟨rfl, rfl, rfl⟩ := trodAll_nil r2
  obtain rfl : args = #[v0, v1, v2] := by cases args; simp_all
  obtain ⟨rfl, rfl⟩ := trodVars_none hV
  have lt0 : ∀ x ∈ p0, x.block < W.heap.size := by obtain ⟨m, hm⟩ := h0; exact DataW.trod_lt m _ _ _ hm
  obtain ⟨a, n, c, N, A, C, rfl, hm, hnil, hn, hN, hA1⟩ := open_members (hval 0 22 v0 rfl rfl) h0
  obtain ⟨x1, rfl, rfl, rfl, w1⟩ := open_int Try.underlying23 (hval 1 23 v1 rfl rfl) h1
  obtain ⟨x2, rfl, rfl, rfl, w2⟩ := open_int Try.underlying23 (hval 2 23 v2 rfl rfl) h2
  clear hA0 hval0
  refine (walk a n c N A C x1 x2 W hm hnil hn hN hA1).mono fun e W' ⟨he, bel⟩ => ?_
  subst he
  exact ⟨_, rfl, _, _, _, [], _, [], hW', trodAll_mk1 (shut_bool Try.underlying4 _), (trodAll_cons_mk (Below.trod laidOut (by kernel_rfl) (of_decide_eq_true (by kernel_rfl)) h0 bel lt0) (trodAll_cons_mk (shut_int Try.underlying23 w1) (trodAll_cons_mk (shut_int Try.underlying23 w2) trodAll_mk0))), rfl, bel.frame _, fun h => by cases h⟩

theorem over : Rows.fnMemberListStringParsesBackRow.holds Try.pinned (OpenSpec.ofChange Rows.fnMemberListStringParsesBackSpec) :=
  OpenClaim.holds_of_wide 3 Try.f3 rfl rfl rfl rfl rfl rfl rfl ⟨rfl, rfl, rfl, rfl, rfl⟩ rfl rfl rfl rfl rfl (by kernel_rfl) Try.func3 (by kernel_rfl)
    (of_decide_eq_true (by kernel_rfl)) (by unfold Func.isWrapper; first | (rw [if_pos (by decide +kernel)]; kernel_rfl) | (rw [if_neg (by decide +kernel)]; exact ⟨rfl, rfl⟩))
    (fun os started H enc _ => lifted os started H enc)

theorem stringParsesBack : Rows.FnMemberListStringParsesBackSaid := over
end Go.Proofs.Qxb6604347a
