/-
  THE ARGUMENTS OPENED: a []float64 that came in, as the walks want it.
-/
import Derived.Test.Qxb6605538aWalkF
import Derived.ProofKit
import Derived.Deep.Slices
import Derived.SliceStrings
import Derived.Lib.SmallJoins
namespace Go.Proofs.Qxb6605538a.WF
open Go.RowKit Go.ChangeShapes Go.WideShapes Go.ChangeAt

theorem Try.cells24 : Try.prog.cellsOf 24 = 1 := by kernel_rfl
section
variable {H : Type} {enc : TypeId × Value → H} {w : World} {base : Nat} {spare : Nat → Bool} {held : Bool}
theorem float_of {n : Nat} {v : Value} {y : DataW H × List MemPlace} (h : DataW.trod enc Try.prog w base spare held n 24 [v] = some y) : ∃ b, v = .float .f64 b := by
  cases n with
  | zero => simp [DataW.trod] at h
  | succ m =>
    unfold DataW.trod at h
    rw [Try.underlying24] at h
    cases v <;> simp at h
    exact ⟨_, by rw [h.1.1]⟩
theorem flts_of {n : Nat} {c : Value} {y : DataW H × List MemPlace} (h : DataW.trod enc Try.prog w base spare held n 22 [c] = some y) :
    ∃ (oa : Option Addr) (m cap : Nat) (f : Nat → Nat), c = .slice oa m cap ∧ (oa = none → m = 0 ∧ cap = 0) ∧ m ≤ maxLen ∧ Flts w oa m f := by
  rcases Deep.open_slice1 Try.underlying22 Try.cells24 h with ⟨hc, _⟩ | ⟨a, len, cap, m, n', V, D, Pl, hc, hb, hl, hm, hmm, _, hx⟩
  · simp at hc
    exact ⟨none, 0, 0, fun _ => 0, hc, fun _ => ⟨rfl, rfl⟩, Nat.zero_le _, fun _ h => absurd h (Nat.not_lt_zero _)⟩
  · simp at hc
    have hle : len ≤ m := by rw [hmm]; split <;> omega
    refine ⟨some a, len, cap, fun i => match V i with | .float _ b => b | _ => 0, hc, fun e => (by cases e), by omega, fun k hk => ?_⟩
    obtain ⟨h1, h2⟩ := hx k (by omega)
    obtain ⟨b, hb'⟩ := float_of h2
    obtain ⟨bl, off, spot⟩ := a
    have hspot : spot = none := by simpa [Addr.add] using World.cell?_spot (hx 0 (by omega)).1
    subst hspot
    rw [Addr.add_lit] at h1
    refine ⟨bl, off, rfl, ?_⟩
    simp only [h1, hb']
end
end Go.Proofs.Qxb6605538a.WF
