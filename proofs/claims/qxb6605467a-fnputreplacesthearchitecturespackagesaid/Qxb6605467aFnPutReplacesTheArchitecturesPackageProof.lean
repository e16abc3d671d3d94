/-
  THE PROOF of 'Rows.FnPutReplacesTheArchitecturesPackageSaid': the guide's frame round the walk of Qxb6605467aPutO.
-/
import Derived.Test.Qxb6605467aRows
import Derived.Test.Qxb6605467aPutL
import Derived.Test.Qxb6605467aPutO
import Derived.WalkKit
import Derived.ProofKit
import Derived.OpenShut
import Derived.ShutString
import Derived.ChangeOld
import Derived.Below
namespace Go.Proofs.Qxb6605467a.fnPutReplacesTheArchitecturesPackage
open Go.ChangeShapes Go.WideShapes Go.ChangeAt Go.RowKit
set_option linter.unusedVariables false

theorem own : ownKnob Try.prog.godebug = none := by kernel_rfl
theorem laidOut : laidOutB Try.prog = true := by kernel_rfl

set_option maxRecDepth 100000 in
theorem lifted (os : Os) (started : os.Started) (H : Type) (enc : TypeId × Value → H) :
    ReturnsInHanded {} Try.checked os 5 .any (Rows.fnPutReplacesTheArchitecturesPackageSpec.pre6 enc Try.prog Try.f5 Rows.fnPutReplacesTheArchitecturesPackageRow.domain false) (Rows.fnPutReplacesTheArchitecturesPackageSpec.post enc Try.prog Try.f5 false true false false) := by
  refine returnsInHanded_of_change (C := Try.checked) own started (by kernel_rfl) Try.func5
    (ChangeSpec.witness6 (enc := enc) (C := Try.checked) false ⟨#[], #[.slice none 0 0, .int .i64 0, .agg #[.string ByteArray.empty, .string ByteArray.empty, .string ByteArray.empty, .string ByteArray.empty, .string ByteArray.empty, .slice none 0 0]], []⟩ 8 (by kernel_rfl) (by kernel_rfl) (by kernel_rfl) (by kernel_rfl)) ?_
  intro W base args ds gs before hval0 hW hcnd _
  have hval : ∀ (j : Nat) t v, Try.f5.params[j]? = some t → args[j]? = some v → Value.okWide Try.prog W .any base t v := hval0
  have hW' := hW
  obtain ⟨p, q, hA0, hV, rfl, hfz, hnd⟩ := hW
  have hA : DataW.TrodAll enc Try.prog W 0 (fun _ => true) true Try.f5.params.toList args.toList ds p := hA0
  rw [Try.params5] at hA hval
  obtain ⟨v0, vs0, d0, ds0, p0, q0, hargs, rfl, rfl, h0, r0⟩ := trodAll_cons hA
  obtain ⟨v1, vs1, d1, ds1, p1, q1, rfl, rfl, rfl, h1, r1⟩ := trodAll_cons r0
  obtain ⟨v2, vs2, d2, ds2, p2, q2, rfl, rfl, rfl, h2, r2⟩ := trodAll_cons r1
  obtain ⟨rfl, rfl, rfl⟩ := trodAll_nil r2
  obtain rfl : args = #[v0, v1, v2] := by cases args; simp_all
  obtain ⟨rfl, rfl⟩ := trodVars_none hV
  obtain ⟨a0, len0, cap0, rfl⟩ := okWide_slice Try.underlying25 (hval 0 25 v0 rfl rfl)
  have k0 := h0
  have lt0 : ∀ x ∈ p0, x.block < W.heap.size := by obtain ⟨m, hm⟩ := k0; exact DataW.trod_lt m _ _ _ hm
  obtain ⟨g, hz0, w0, hp0, hn0⟩ : ∃ g : Nat → Put.PV, (a0 = none → len0 = 0 ∧ cap0 = 0) ∧ len0 ≤ maxLen ∧ Put.Pkgs W a0 len0 g ∧ Put.Nils g := by
    obtain ⟨fuel, hf⟩ := h0
    obtain ⟨pa, m, pc, g, e, hz, hm, hp, hn⟩ := Put.pkgs_of (by simpa [Value.cells] using hf)
    cases e
    exact ⟨g, hz, hm, hp, hn⟩
  obtain ⟨a1, rfl, rfl, rfl, w1⟩ := open_int Try.underlying3 (hval 1 3 v1 rfl rfl) h1
  have k2 := h2
  have lt2 : ∀ x ∈ p2, x.block < W.heap.size := by obtain ⟨m, hm⟩ := k2; exact DataW.trod_lt m _ _ _ hm
  obtain ⟨cs, rfl, hsz⟩ := okWide_struct Try.underlying28 (hval 2 28 v2 rfl rfl)
  obtain ⟨x, hx, hxr, hxn⟩ : ∃ x : Put.PV, cs = x.cells.toArray ∧ x.reads W ∧ (x.ca = none → x.cn = 0 ∧ x.cc = 0) := by
    obtain ⟨fuel, hf⟩ := h2
    obtain ⟨x, e, h3, h4⟩ := Put.pkg_of hf
    refine ⟨x, ?_, h3, h4⟩
    have e' : cs.toList = x.cells := by simpa [Value.cells] using e
    rw [← e']
  subst hx
  clear hA0 hval0
  obtain ⟨g', hg'⟩ : ∃ g' : Nat → Put.PV, g' = fun i => if i = len0 then x else g i := ⟨_, rfl⟩
  have e1 : g' len0 = x := by rw [hg']; simp
  have e2 : ∀ i, i < len0 → g' i = g i := fun i hi => by rw [hg']; simp; omega
  have hp1 : Put.Pkgs W a0 len0 g' := fun k hk => by rw [e2 k hk]; exact hp0 k hk
  have hn1 : Put.Nils g' := fun k => by
    rw [hg']
    by_cases hk : k = len0
    · simp only [hk, if_true]; exact hxn
    · simp only [hk, if_false]; exact hn0 k
  have hw := Put.replace_walk W a0 len0 cap0 a1 g' hp1 hz0 hn1 w0 (by rw [e1]; exact hxr)
  rw [e1] at hw
  refine Calls.mono hw fun e W' ⟨he, bel⟩ => ?_
  subst he
  exact ⟨_, rfl, _, _, _, [], _, [], hW', trodAll_mk1 (shut_bool Try.underlying4 _), (trodAll_cons_mk (Below.trod laidOut (by kernel_rfl) (of_decide_eq_true (by kernel_rfl)) k0 bel lt0) (trodAll_cons_mk (shut_int Try.underlying3 w1) (trodAll_cons_mk (Below.trod laidOut (by kernel_rfl) (of_decide_eq_true (by kernel_rfl)) k2 bel lt2) trodAll_mk0))), rfl, bel.frame _, fun h => by cases h⟩

theorem over : Rows.fnPutReplacesTheArchitecturesPackageRow.holds Try.pinned (OpenSpec.ofChange Rows.fnPutReplacesTheArchitecturesPackageSpec) :=
  OpenClaim.holds_of_wide 5 Try.f5 rfl rfl rfl rfl rfl rfl rfl ⟨rfl, rfl, rfl, rfl, rfl⟩ rfl rfl rfl rfl rfl (by kernel_rfl) Try.func5 (by kernel_rfl)
    (of_decide_eq_true (by kernel_rfl)) (by unfold Func.isWrapper; first | (rw [if_pos (by decide +kernel)]; kernel_rfl) | (rw [if_neg (by decide +kernel)]; exact ⟨rfl, rfl⟩))
    (fun os started H enc _ => lifted os started H enc)

/-- THE STATEMENT -/
theorem proved : Rows.FnPutReplacesTheArchitecturesPackageSaid :=
  over
#print axioms proved
end Go.Proofs.Qxb6605467a.fnPutReplacesTheArchitecturesPackage
