/-
  THE WALKS of slices.IndexFunc and the closure that put hands it: the first package of the architecture, or -1.
-/
import Derived.Test.Qxb6605467aPutD
namespace Go.Proofs.Qxb6605467a.Put
open Go.RowKit
open Go.Proofs.Qxb6605467a.Node (hide unhide bytes_ext)

/-- the packages' cells, without what their slices lead to -/
def Rowed (w : World) (oa : Option Addr) (n : Nat) (f : Nat → PV) : Prop :=
  ∀ k, k < n → ∃ b off, oa = some ⟨b, off, none⟩ ∧ (f k).at w b (off + k * 6)
theorem Rowed.later {w w' : World} {oa : Option Addr} {n : Nat} {f : Nat → PV} (h : Rowed w oa n f) (hb : Below w.heap.size w w') : Rowed w' oa n f := by
  intro k hk
  obtain ⟨b, off, e, hc⟩ := h k hk
  exact ⟨b, off, e, hc.later hb⟩

theorem beq_yes {a b : ByteArray} (h : a = b) : (a.toList == b.toList) = true := by rw [h]; exact beq_self_eq_true _
theorem beq_no {a b : ByteArray} (h : a ≠ b) : (a.toList == b.toList) = false := by
  rw [beq_eq_false_iff_ne]
  intro e
  rw [Lib.toList_data, Lib.toList_data] at e
  exact h (bytes_ext e)

set_option maxHeartbeats 400000 in
theorem same_arch (q : PV) (w : World) (bp : Nat) (s : ByteArray) (h : w.cell? ⟨bp, 2, none⟩ = some (.string s)) (hb : bp < w.heap.size) :
    Calls Try.prog 24 #[.agg #[.string q.s0, .string q.s1, .string q.s2, .string q.s3, .string q.s4, .slice q.ca q.cn q.cc], .pointer (some ⟨bp, 0, none⟩)] w
      fun e w' => e = .returned (.bool (q.s2.toList == s.toList)) ∧ Below w.heap.size w w' := by
  go_enter Try.func24, Try.ntmps24
  go_wp2
  go_ret
  exact ⟨rfl, below_alloc _ _⟩

/-- IndexFunc: k is the first place of s, or n where there is none -/
def found (n k : Nat) : Int := if k < n then (k : Int) else -1

set_option maxHeartbeats 800000 in
theorem index_any (w : World) (oa : Option Addr) (n cap : Nat) (f : Nat → PV) (hf : Rowed w oa n f) (hl : n ≤ 1048576) (bp : Nat) (s : ByteArray) (h : w.cell? ⟨bp, 2, none⟩ = some (.string s)) (k : Nat) (hk : k ≤ n) (hne : ∀ j, j < k → (f j).s2 ≠ s) (heq : k < n → (f k).s2 = s) :
    Calls Try.prog 23 #[.slice oa n cap, .func (.func 24) #[] #[.pointer (some ⟨bp, 0, none⟩)]] w
      fun e w' => e = .returned (.int .i64 (found n k)) ∧ Below w.heap.size w w' := by
  have HF := hide hf
  have HN := hide hne
  have HQ := hide heq
  have HC := hide h
  have hbp := block_lt_of_cell h
  dsimp only at hbp
  clear hf hne heq h
  go_enter Try.func23, Try.ntmps23
  go_wp2_with (fail)
  go_loopw [8, 5] (fun i _ wr => ∃ j : Nat, j ≤ k ∧ i = .int .i64 j ∧ Below w.heap.size w wr) (fun i _ _ => n - (intOf i).toNat)
  case atStart => exact ⟨0, Nat.zero_le _, rfl, Below.refl _ _⟩
  case round =>
    obtain ⟨j, hj, rfl, hb⟩ := hrel
    have HB := hide hb
    have hbr : bp < wr.heap.size := by have := hb.size; omega
    clear hb
    by_cases hlt : j < n
    · obtain ⟨b, off, rfl, hc⟩ := (unhide HF) j hlt
      obtain ⟨c0, c1, c2, c3, c4, c5⟩ := (show (f j).at wr b (off + j * 6) from hc.later ((unhide HB)))
      clear hc
      go_wp2_with (fail)
      refine (same_arch (f j) _ bp s (by rw [(unhide HB).cell hbp]; exact unhide HC) hbr).mono ?_
      rintro e w2 ⟨rfl, hb2⟩
      have HB2 : Hid (Below w.heap.size w w2) := (unhide HB).trans (hb2.mono (unhide HB).size)
      clear hb2
      by_cases e : j = k
      · subst e
        rw [beq_yes (unhide HQ hlt)]
        go_wp2
        go_ret
        exact ⟨by rw [found, if_pos hlt]; rfl, unhide HB2⟩
      · rw [beq_no (unhide HN j (by omega))]
        go_wp2
        go_roundw
        case rel => exact ⟨j + 1, by omega, by go_num, unhide HB2⟩
        case measure => simp [intOf]; omega
    · go_wp2
      go_ret
      exact ⟨by rw [found, if_neg (by omega)]; rfl, unhide HB⟩
end Go.Proofs.Qxb6605467a.Put
