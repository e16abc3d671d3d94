/-
  THE PROOF of 'Rows.FnWeightedMeanExactSaid': the guide's frame round the walk of Qxb6605538aExactW.
-/
import Derived.Test.Qxb6605538aRows
import Derived.Test.Qxb6605538aExactW
import Derived.Test.Qxb6605538aOpen
import Derived.WalkKit
import Derived.ProofKit
import Derived.OpenShut
import Derived.ShutString
import Derived.ChangeOld
import Derived.Below
namespace Go.Proofs.Qxb6605538a.fnWeightedMeanExact
open Go.ChangeShapes Go.WideShapes Go.ChangeAt Go.RowKit
set_option linter.unusedVariables false

theorem own : ownKnob Try.prog.godebug = none := by kernel_rfl
theorem laidOut : laidOutB Try.prog = true := by kernel_rfl

set_option maxRecDepth 100000 in
theorem lifted (os : Os) (started : os.Started) (H : Type) (enc : TypeId × Value → H) :
    ReturnsInHanded {} Try.checked os 3 .any (Rows.fnWeightedMeanExactSpec.pre6 enc Try.prog Try.f3 Rows.fnWeightedMeanExactRow.domain false) (Rows.fnWeightedMeanExactSpec.post enc Try.prog Try.f3 false true false false) := by
  refine returnsInHanded_of_change (C := Try.checked) own started (by kernel_rfl) Try.func3
    (ChangeSpec.witness6 (enc := enc) (C := Try.checked) false ⟨#[], #[.slice none 0 0, .slice none 0 0, .slice none 0 0], []⟩ 8 (by kernel_rfl) (by kernel_rfl) (by kernel_rfl) (by kernel_rfl)) ?_
  intro W base args ds gs before hval0 hW hcnd _
  have hval : ∀ (j : Nat) t v, Try.f3.params[j]? = some t → args[j]? = some v → Value.okWide Try.prog W .any base t v := hval0
  have hW' := hW
  obtain ⟨p, q, hA0, hV, rfl, hfz, hnd⟩ := hW
  have hA : DataW.TrodAll enc Try.prog W 0 (fun _ => true) true Try.f3.params.toList args.toList ds p := hA0
  rw [Try.params3] at hA hval
  obtain ⟨v0, vs0, d0, ds0, p0, q0, hargs, rfl, rfl, h0, r0⟩ := trodAll_cons hA
  obtain ⟨v1, vs1, d1, ds1, p1, q1, rfl, rfl, rfl, h1, r1⟩ := trodAll_cons r0
  obtain ⟨v2, vs2, d2, ds2, p2, q2, rfl, rfl, rfl, h2, r2⟩ := trodAll_cons r1
  obtain ⟨rfl, rfl, rfl⟩ := trodAll_nil r2
  obtain rfl : args = #[v0, v1, v2] := by cases args; simp_all
  obtain ⟨rfl, rfl⟩ := trodVars_none hV
  obtain ⟨a0, len0, cap0, rfl⟩ := okWide_slice Try.underlying22 (hval 0 22 v0 rfl rfl)
  have k0 := h0
  have lt0 : ∀ x ∈ p0, x.block < W.heap.size := by obtain ⟨m, hm⟩ := k0; exact DataW.trod_lt m _ _ _ hm
  obtain ⟨g0, n0, w0, hp0⟩ : ∃ g : Nat → Nat, (a0 = none → len0 = 0 ∧ cap0 = 0) ∧ len0 ≤ maxLen ∧ WF.Flts W a0 len0 g := by
    obtain ⟨fuel, hf⟩ := h0
    obtain ⟨pa, m, pc, g, e, hz, hm, hp⟩ := WF.flts_of (by simpa [Value.cells] using hf)
    cases e
    exact ⟨g, hz, hm, hp⟩
  obtain ⟨a1, len1, cap1, rfl⟩ := okWide_slice Try.underlying22 (hval 1 22 v1 rfl rfl)
  have k1 := h1
  have lt1 : ∀ x ∈ p1, x.block < W.heap.size := by obtain ⟨m, hm⟩ := k1; exact DataW.trod_lt m _ _ _ hm
  obtain ⟨g1, n1, w1, hp1⟩ : ∃ g : Nat → Nat, (a1 = none → len1 = 0 ∧ cap1 = 0) ∧ len1 ≤ maxLen ∧ WF.Flts W a1 len1 g := by
    obtain ⟨fuel, hf⟩ := h1
    obtain ⟨pa, m, pc, g, e, hz, hm, hp⟩ := WF.flts_of (by simpa [Value.cells] using hf)
    cases e
    exact ⟨g, hz, hm, hp⟩
  obtain ⟨a2, len2, cap2, rfl⟩ := okWide_slice Try.underlying22 (hval 2 22 v2 rfl rfl)
  have k2 := h2
  have lt2 : ∀ x ∈ p2, x.block < W.heap.size := by obtain ⟨m, hm⟩ := k2; exact DataW.trod_lt m _ _ _ hm
  obtain ⟨g2, n2, w2, hp2⟩ : ∃ g : Nat → Nat, (a2 = none → len2 = 0 ∧ cap2 = 0) ∧ len2 ≤ maxLen ∧ WF.Flts W a2 len2 g := by
    obtain ⟨fuel, hf⟩ := h2
    obtain ⟨pa, m, pc, g, e, hz, hm, hp⟩ := WF.flts_of (by simpa [Value.cells] using hf)
    cases e
    exact ⟨g, hz, hm, hp⟩
  clear hA0 hval0
  refine (WF.walk3 W a0 a1 a2 len0 len1 len2 cap0 cap1 cap2 g0 g1 g2 w0 w1 w2 n0 n1 n2 hp0 hp1 hp2).mono fun e W' ⟨he, bel⟩ => ?_
  subst he
  exact ⟨_, rfl, _, _, _, [], _, [], hW', trodAll_mk1 (shut_bool Try.underlying4 _), (trodAll_cons_mk (Below.trod laidOut (by kernel_rfl) (of_decide_eq_true (by kernel_rfl)) k0 bel lt0) (trodAll_cons_mk (Below.trod laidOut (by kernel_rfl) (of_decide_eq_true (by kernel_rfl)) k1 bel lt1) (trodAll_cons_mk (Below.trod laidOut (by kernel_rfl) (of_decide_eq_true (by kernel_rfl)) k2 bel lt2) trodAll_mk0))), rfl, bel.frame _, fun h => by cases h⟩

theorem over : Rows.fnWeightedMeanExactRow.holds Try.pinned (OpenSpec.ofChange Rows.fnWeightedMeanExactSpec) :=
  OpenClaim.holds_of_wide 3 Try.f3 rfl rfl rfl rfl rfl rfl rfl ⟨rfl, rfl, rfl, rfl, rfl⟩ rfl rfl rfl rfl rfl (by kernel_rfl) Try.func3 (by kernel_rfl)
    (of_decide_eq_true (by kernel_rfl)) (by unfold Func.isWrapper; first | (rw [if_pos (by decide +kernel)]; kernel_rfl) | (rw [if_neg (by decide +kernel)]; exact ⟨rfl, rfl⟩))
    (fun os started H enc _ => lifted os started H enc)

/-- THE STATEMENT -/
theorem proved : Rows.FnWeightedMeanExactSaid :=
  over
#print axioms proved
end Go.Proofs.Qxb6605538a.fnWeightedMeanExact
