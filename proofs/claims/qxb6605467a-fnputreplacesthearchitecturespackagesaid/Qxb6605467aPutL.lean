/-
  THE ARGUMENTS OPENED: a []PkgB1 and a PkgB1 that came in, as the walks want them.
-/
import Derived.Test.Qxb6605467aPutK
import Derived.ProofKit
import Derived.Deep.Slices
import Derived.SliceStrings
import Derived.Lib.SmallJoins
namespace Go.Proofs.Qxb6605467a.Put
open Go.RowKit Go.ChangeShapes Go.WideShapes Go.ChangeAt

theorem Try.cells28 : Try.prog.cellsOf 28 = 6 := by kernel_rfl
theorem Try.cells9 : Try.prog.cellsOf 9 = 1 := by kernel_rfl
theorem Try.cells26 : Try.prog.cellsOf 26 = 1 := by kernel_rfl

section
variable {H : Type} {enc : TypeId × Value → H} {w : World} {base : Nat} {spare : Nat → Bool} {held : Bool}

theorem trod_struct6 {P : Program} {t : TypeId} {f0 f1 f2 f3 f4 f5 : Field} {fuel : Nat} {cs : List Value} {x : DataW H × List MemPlace} (ht : P.underlying t = some (.struct #[f0, f1, f2, f3, f4, f5])) (h : DataW.trod enc P w base spare held fuel t cs = some x) :
    ∃ y0 y1 y2 y3 y4 y5 n, cs.length = P.cellsOf t ∧ DataW.trod enc P w base spare held n f0.type ((cs.drop f0.offset).take (P.cellsOf f0.type)) = some y0 ∧
      DataW.trod enc P w base spare held n f1.type ((cs.drop f1.offset).take (P.cellsOf f1.type)) = some y1 ∧ DataW.trod enc P w base spare held n f2.type ((cs.drop f2.offset).take (P.cellsOf f2.type)) = some y2 ∧
      DataW.trod enc P w base spare held n f3.type ((cs.drop f3.offset).take (P.cellsOf f3.type)) = some y3 ∧ DataW.trod enc P w base spare held n f4.type ((cs.drop f4.offset).take (P.cellsOf f4.type)) = some y4 ∧
      DataW.trod enc P w base spare held n f5.type ((cs.drop f5.offset).take (P.cellsOf f5.type)) = some y5 := by
  obtain ⟨xs, n, _, rfl, hl, hlen, hf⟩ := DataW.trod_struct ht h
  match xs, hlen with
  | [y0, y1, y2, y3, y4, y5], _ => exact ⟨y0, y1, y2, y3, y4, y5, n, hl, by simpa using hf 0 f0 rfl, by simpa using hf 1 f1 rfl, by simpa using hf 2 f2 rfl, by simpa using hf 3 f3 rfl, by simpa using hf 4 f4 rfl, by simpa using hf 5 f5 rfl⟩

/-- a slice of strings -/
theorem strs_of {n : Nat} {c : Value} {y : DataW H × List MemPlace} (h : DataW.trod enc Try.prog w base spare held n 26 [c] = some y) :
    ∃ (oa : Option Addr) (k cap : Nat) (f : Nat → ByteArray), c = .slice oa k cap ∧ (oa = none → k = 0 ∧ cap = 0) ∧ k ≤ maxLen ∧ Strs w oa k f := by
  rcases Deep.open_slice1 Try.underlying26 Try.cells9 h with ⟨hc, _⟩ | ⟨a, len, cap, m, n', V, D, Pl, hc, hb, hl, hm, hmm, _, hx⟩
  · simp at hc
    exact ⟨none, 0, 0, fun _ => ByteArray.empty, hc, fun _ => ⟨rfl, rfl⟩, Nat.zero_le _, fun _ h => absurd h (Nat.not_lt_zero _)⟩
  · simp at hc
    have hle : len ≤ m := by rw [hmm]; split <;> omega
    obtain ⟨f, hf⟩ := Deep.choose_lt (α := ByteArray) (n := len) (p := fun i s => w.cell? (a.add i) = some (.string s)) (fun i hi => by
      obtain ⟨h1, h2⟩ := hx i (by omega)
      obtain ⟨s, hs, _⟩ := DataW.trod_string Try.underlying9 h2
      simp at hs
      exact ⟨s, by rw [h1, hs]⟩)
    refine ⟨some a, len, cap, f, hc, fun e => (by cases e), by omega, fun k hk => ?_⟩
    obtain ⟨b, off, spot⟩ := a
    have hspot : spot = none := by simpa [Addr.add] using World.cell?_spot (hf 0 (by omega))
    subst hspot
    refine ⟨b, off, rfl, ?_⟩
    have := hf k hk
    rwa [Addr.add_lit] at this

/-- a package -/
theorem pkg_of {n : Nat} {cs : List Value} {y : DataW H × List MemPlace} (h : DataW.trod enc Try.prog w base spare held n 28 cs = some y) :
    ∃ p : PV, cs = p.cells ∧ p.reads w ∧ (p.ca = none → p.cn = 0 ∧ p.cc = 0) := by
  obtain ⟨y0, y1, y2, y3, y4, y5, n, hl, h0, h1, h2, h3, h4, h5⟩ := trod_struct6 Try.underlying28 h
  rw [Try.cells28] at hl
  match cs, hl with
  | [c0, c1, c2, c3, c4, c5], _ =>
    simp only [Try.cells9, Try.cells26] at h0 h1 h2 h3 h4 h5
    simp at h0 h1 h2 h3 h4 h5
    obtain ⟨s0, e0, _⟩ := DataW.trod_string Try.underlying9 h0
    obtain ⟨s1, e1, _⟩ := DataW.trod_string Try.underlying9 h1
    obtain ⟨s2, e2, _⟩ := DataW.trod_string Try.underlying9 h2
    obtain ⟨s3, e3, _⟩ := DataW.trod_string Try.underlying9 h3
    obtain ⟨s4, e4, _⟩ := DataW.trod_string Try.underlying9 h4
    obtain ⟨oa, k, cap, f, e5, hn, hk, hs⟩ := strs_of h5
    simp at e0 e1 e2 e3 e4
    subst e0 e1 e2 e3 e4 e5
    exact ⟨⟨s0, s1, s2, s3, s4, oa, k, cap, f⟩, rfl, ⟨hk, hs⟩, hn⟩

theorem at_of_cells {a : Addr} {p : PV} (h : w.cells? base a 6 = some p.cells) : ∃ b off, a = ⟨b, off, none⟩ ∧ p.at w b off := by
  have hc := (World.cells?_some h).2.2
  obtain ⟨b, off, spot⟩ := a
  have h0 : w.cell? ((⟨b, off, spot⟩ : Addr).add 0) = some (.string p.s0) := hc 0 (by decide)
  have hspot : spot = none := by simpa [Addr.add] using World.cell?_spot h0
  subst hspot
  simp only [Addr.add_lit] at hc
  exact ⟨b, off, rfl, hc 0 (by decide), hc 1 (by decide), hc 2 (by decide), hc 3 (by decide), hc 4 (by decide), hc 5 (by decide)⟩

/-- a slice of packages -/
theorem pkgs_of {n : Nat} {c : Value} {y : DataW H × List MemPlace} (h : DataW.trod enc Try.prog w base spare held n 25 [c] = some y) :
    ∃ (pa : Option Addr) (m pc : Nat) (g : Nat → PV), c = .slice pa m pc ∧ (pa = none → m = 0 ∧ pc = 0) ∧ m ≤ maxLen ∧ Pkgs w pa m g ∧ Nils g := by
  rcases Deep.open_slice Try.underlying25 h with ⟨hc, _⟩ | ⟨a, len, cap, m, n', D, Pl, hc, hb, hl, hm, hmm, _, hx⟩
  · simp at hc
    exact ⟨none, 0, 0, fun _ => PV.nil, hc, fun _ => ⟨rfl, rfl⟩, Nat.zero_le _, fun _ h => absurd h (Nat.not_lt_zero _), fun _ _ => ⟨rfl, rfl⟩⟩
  · simp at hc
    have hle : len ≤ m := by rw [hmm]; split <;> omega
    have hg : ∀ i, i < len → ∃ p : PV, w.cells? base (a.add (i * 6)) 6 = some p.cells ∧ p.reads w ∧ (p.ca = none → p.cn = 0 ∧ p.cc = 0) := fun i hi => by
      obtain ⟨cs', h1, h2⟩ := hx i (by omega)
      rw [Try.cells28] at h1
      obtain ⟨p, rfl, hp1, hp2⟩ := pkg_of h2
      exact ⟨p, h1, hp1, hp2⟩
    obtain ⟨g, hg'⟩ : ∃ g : Nat → PV, ∀ i, (i < len → w.cells? base (a.add (i * 6)) 6 = some (g i).cells ∧ (g i).reads w) ∧ ((g i).ca = none → (g i).cn = 0 ∧ (g i).cc = 0) := by
      classical
      refine ⟨fun i => if hi : i < len then Classical.choose (hg i hi) else PV.nil, fun i => ?_⟩
      by_cases hi : i < len
      · simp only [dif_pos hi]
        have := Classical.choose_spec (hg i hi)
        exact ⟨fun _ => ⟨this.1, this.2.1⟩, this.2.2⟩
      · simp only [dif_neg hi]
        exact ⟨fun h => absurd h hi, fun _ => ⟨rfl, rfl⟩⟩
    refine ⟨some a, len, cap, g, hc, fun e => (by cases e), by omega, fun k hk => ?_, fun k => (hg' k).2⟩
    obtain ⟨b0, off0, e0, _⟩ := at_of_cells ((hg' 0).1 (by omega)).1
    have ea : a = ⟨b0, off0, none⟩ := by simpa [Addr.add] using e0
    subst ea
    obtain ⟨b, off, e, hat⟩ := at_of_cells ((hg' k).1 hk).1
    rw [Addr.add_lit] at e
    cases e
    exact ⟨b0, off0, rfl, hat, ((hg' k).1 hk).2⟩
end
end Go.Proofs.Qxb6605467a.Put
