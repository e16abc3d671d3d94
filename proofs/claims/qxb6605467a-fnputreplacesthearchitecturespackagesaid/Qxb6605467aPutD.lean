/-
  THE WALK of b1Same: at two packages that read alike it answers true.
-/
import Derived.Test.Qxb6605467aPutC
import Derived.BigQuiet
import Derived.Deep.QuietTactic
import Derived.Lib.SliceRun
namespace Go.Proofs.Qxb6605467a.Put
open Go.RowKit
open Go.Proofs.Qxb6605467a.Node (hide unhide)

set_option maxHeartbeats 800000 in
theorem same_walk (s0 s1 s2 s3 s4 : ByteArray) (ca ca' : Option Addr) (n c c' : Nat) (f f' : Nat → ByteArray) (w : World) (hn : (ca = none ↔ ca' = none)) (hl : n ≤ maxLen)
    (h : Strs w ca n f) (h' : Strs w ca' n f') (hf : ∀ k, k < n → f k = f' k) :
    Calls Try.prog 17 #[.agg #[.string s0, .string s1, .string s2, .string s3, .string s4, .slice ca n c], .agg #[.string s0, .string s1, .string s2, .string s3, .string s4, .slice ca' n c']] w
      fun e w' => e = .returned (.bool true) ∧ Below w.heap.size w w' := by
  unfold maxLen at hl
  have H := hide h
  have H' := hide h'
  have HF := hide hf
  have hi : ca.isNone = ca'.isNone := by
    cases ca <;> cases ca' <;> simp at hn ⊢
  clear h h' hf hn
  have hnil := fun (w : World) (a : Option Addr) (n c n' c' : Nat) => Lib.run_eql_slice_nil (P := Try.prog) w 26 9 a n c n' c' Try.underlying26
  go_enter Try.func17, Try.ntmps17
  go_wp2_with (fail)
  go_loopw [5] (fun i wr => ∃ k : Nat, k ≤ n ∧ i = .int .i64 k ∧ ∃ d, wr = (World.drewN ((w.alloc (Obj.cells #[.string s0, .string s1, .string s2, .string s3, .string s4, .slice ca n c] 35)).alloc (Obj.cells #[.string s0, .string s1, .string s2, .string s3, .string s4, .slice ca' n c'] 28)) d)) (fun i _ => n - (intOf i).toNat)
  case atStart => exact ⟨0, Nat.zero_le _, rfl, 0, rfl⟩
  case round =>
    obtain ⟨k, hk, rfl, d, rfl⟩ := hrel
    by_cases hlt : k < n
    · obtain ⟨b, off, rfl, hc⟩ := unhide H k hlt
      obtain ⟨b', off', rfl, hc'⟩ := unhide H' k hlt
      rw [← unhide HF k hlt] at hc'
      have hb := block_lt_of_cell hc
      have hb' := block_lt_of_cell hc'
      dsimp only at hb hb'
      go_wp2_with (fail)
      go_quiet (fail)
      go_wp2
      go_roundw
      case rel => exact ⟨k + 1, by omega, by go_num, _, rfl⟩
      case measure => simp [intOf]; omega
    · go_wp2
      go_ret
      exact ⟨rfl, below_drewN ((below_alloc _ _).alloc (by simp) _) _⟩

theorem same_any (p q : PV) (w : World) (h : p.like q) (hl : p.cn ≤ maxLen) (hp : Strs w p.ca p.cn p.cf) (hq : Strs w q.ca q.cn q.cf) :
    Calls Try.prog 17 #[.agg #[.string p.s0, .string p.s1, .string p.s2, .string p.s3, .string p.s4, .slice p.ca p.cn p.cc], .agg #[.string q.s0, .string q.s1, .string q.s2, .string q.s3, .string q.s4, .slice q.ca q.cn q.cc]] w
      fun e w' => e = .returned (.bool true) ∧ Below w.heap.size w w' := by
  obtain ⟨h0, h1, h2, h3, h4, h5, h6, h7⟩ := h
  rw [← h0, ← h1, ← h2, ← h3, ← h4, ← h6]
  rw [← h6] at hq
  exact same_walk _ _ _ _ _ _ _ _ _ _ _ _ w h5 hl hp hq h7
end Go.Proofs.Qxb6605467a.Put
