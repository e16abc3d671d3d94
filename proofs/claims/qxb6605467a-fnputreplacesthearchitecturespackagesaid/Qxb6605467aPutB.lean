/-
  THE WALK of zzBytes_FnPutReplacesTheArchitecturesPackage: it returns a bool, and turns nothing that was there.
-/
import Derived.Test.Qxb6605467aPutA
namespace Go.Proofs.Qxb6605467a.Put
open Go.RowKit
open Go.Proofs.Qxb6605467a.Node (hide unhide)

set_option maxHeartbeats 1600000 in
set_option maxRecDepth 100000 in
theorem zz5_any (s0 s1 s2 s3 s4 : ByteArray) (oa : Option Addr) (n cap : Nat) (f : Nat → ByteArray) (w : World) (h0 : n ≤ maxLen) (h : Strs w oa n f)
    (ns : Int) (pa : Option Addr) (m pc : Nat) (g : Nat → PV) (hp : Pkgs w pa m g) (hm : m ≤ maxLen) :
    Calls Try.prog 12 #[.slice pa m pc, .int .i64 ns, .agg #[.string s0, .string s1, .string s2, .string s3, .string s4, .slice oa n cap]] w fun e w' => Says (n ≤ 1048576 ∧ ∀ k, k < m → (g k).cn ≤ 1048576) e ∧ Below w.heap.size w w' := by
  have H := hide h
  have HP := hide hp
  clear h hp
  unfold maxLen at hm h0
  go_enter Try.func12, Try.ntmps12
  go_wp2_with (fail)
  · go_ret
    exact ⟨says_no _, below_alloc _ _⟩
  go_loop [7, 8] (fun z i => ∃ k : Nat, ∃ y : Int, k ≤ m ∧ i = .int .i64 k ∧ z = .int .i64 y ∧ ∀ j, j < k → (g j).cn ≤ 1048576) (fun _ i => m - (intOf i).toNat)
  case atStart => exact ⟨0, _, Nat.zero_le _, rfl, rfl, fun _ h => absurd h (Nat.not_lt_zero _)⟩
  case round =>
    obtain ⟨k, y, hk, rfl, rfl, hj⟩ := hrel
    have HJ := hide hj
    clear hj
    by_cases hlt : k < m
    · obtain ⟨b, off, rfl, hc, hr⟩ := (unhide HP) k hlt
      have HR := hide hr.2
      have hn := hr.1
      clear hr
      obtain ⟨c0, c1, c2, c3, c4, c5⟩ := hc
      unfold maxLen at hn
      generalize hgk : g k = p at *
      have HG := hide hgk
      clear hgk
      obtain ⟨t0, t1, t2, t3, t4, ca, cn, cc, cf⟩ := p
      dsimp only at *
      have hbl := block_lt_of_cell c0
      go_wp2_with (fail)
      iterate 12 (· go_ret
                    exact ⟨says_no _, below_alloc _ _⟩)
      go_loop [7, 9] (fun z i => ∃ k2 : Nat, ∃ y : Int, k2 ≤ cn ∧ i = .int .i64 k2 ∧ z = .int .i64 y) (fun _ i => cn - (intOf i).toNat)
      case atStart => exact ⟨0, _, Nat.zero_le _, rfl, rfl⟩
      case round =>
        obtain ⟨k2, y2, hk2, rfl, rfl⟩ := hrel
        by_cases hlt2 : k2 < cn
        · obtain ⟨b2, off2, rfl, hc2⟩ := (unhide HR) k2 hlt2
          have hbl2 := block_lt_of_cell hc2
          go_wp2_with (fail)
          · go_ret
            exact ⟨says_no _, below_alloc _ _⟩
          · go_ret
            exact ⟨says_no _, below_alloc _ _⟩
          · go_round
            case rel => exact ⟨k2 + 1, _, by omega, by go_num, rfl⟩
            case measure => simp [intOf]; omega
        · go_wp2
          go_round
          case rel => exact ⟨k + 1, _, by omega, by go_num, rfl, below_succ (unhide HJ) (by rw [unhide HG]; show cn ≤ _; omega)⟩
          case measure => simp [intOf]; omega
    · go_wp2_with (fail)
      iterate 12 (· go_ret
                    exact ⟨says_no _, below_alloc _ _⟩)
      go_loop [7, 10] (fun z i => ∃ k2 : Nat, ∃ y : Int, k2 ≤ n ∧ i = .int .i64 k2 ∧ z = .int .i64 y) (fun _ i => n - (intOf i).toNat)
      case atStart => exact ⟨0, _, Nat.zero_le _, rfl, rfl⟩
      case round =>
        obtain ⟨k2, y2, hk2, rfl, rfl⟩ := hrel
        by_cases hlt2 : k2 < n
        · obtain ⟨b2, off2, rfl, hc2⟩ := (unhide H) k2 hlt2
          have hbl2 := block_lt_of_cell hc2
          go_wp2_with (fail)
          · go_ret
            exact ⟨says_no _, below_alloc _ _⟩
          · go_ret
            exact ⟨says_no _, below_alloc _ _⟩
          · go_round
            case rel => exact ⟨k2 + 1, _, by omega, by go_num, rfl⟩
            case measure => simp [intOf]; omega
        · go_wp2
          go_ret
          exact ⟨says_yes ⟨by omega, fun j hj => unhide HJ j (by omega)⟩, below_alloc _ _⟩
end Go.Proofs.Qxb6605467a.Put
