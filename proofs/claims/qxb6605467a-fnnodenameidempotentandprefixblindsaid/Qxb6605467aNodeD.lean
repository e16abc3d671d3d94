/-
  THE WALK of FnNodeNameIdempotentAndPrefixBlind: it returns true at every path.
-/
import Derived.Test.Qxb6605467aNodeC
namespace Go.Proofs.Qxb6605467a.Node
open Go.RowKit

theorem zznode_is (s g : ByteArray) (w : World) (hs : s.size ≤ 1048600) (h : g.data.toList = 47 :: Path.skip s.data.toList) :
    Calls Try.prog 8 #[.string s] w fun e w' => e = .returned (.string g) ∧ w' = w := by
  refine (zznode_any s w hs).mono ?_
  rintro e w' ⟨g', rfl, hg, rfl⟩
  rw [bytes_ext (hg.trans h.symm)]
  exact ⟨rfl, rfl⟩

set_option maxHeartbeats 400000 in
theorem suffix_yes (s t : ByteArray) (w : World) (hs : s.size ≤ 1048600) (hl : t.size ≤ s.size) (h : (s.extract (s.size - t.size) s.size).toList = t.toList) :
    Calls Try.prog 11 #[.string s, .string t] w fun e w' => e = .returned (.bool true) ∧ w' = w := by
  go_enter Try.func11, Try.ntmps11
  go_wp2
  go_ret
  exact ⟨rfl, rfl⟩

theorem app_list (p s : ByteArray) : (p ++ s).data.toList = p.data.toList ++ s.data.toList := by
  simp
theorem app_size (p s : ByteArray) : (p ++ s).size = p.size + s.size := by
  simp

set_option maxHeartbeats 400000 in
theorem walk2 (s : ByteArray) (hs : s.size ≤ maxLen) (w : World) :
    Calls Try.prog 4 #[.string s] w fun e w' => e = .returned (.bool true) ∧ Grown w w' := by
  unfold maxLen at hs
  by_cases h : s.size ≤ 1048576
  · go_enter Try.func4, Try.ntmps4
    go_wp2_with (fail)
    refine (bytes2_any s _ hs).mono ?_
    rintro e w' ⟨rfl, rfl⟩
    rw [decide_eq_true h]
    go_wp2_with (fail)
    refine (zznode_any s _ (by omega)).mono ?_
    rintro e w' ⟨g, rfl, hg, rfl⟩
    have hz : g.size = (Path.skip s.data.toList).length + 1 := by rw [size_of hg]; rfl
    have HG := hide hg
    have HZ := hide hz
    clear hg hz
    have h1 : 1 ≤ g.size := by rw [unhide HZ]; omega
    have h2 : g.size ≤ s.size + 1 := by rw [unhide HZ]; have := Path.skip_le s.data.toList; rw [size_list] at this; omega
    have h0 : ((g[0].toNat : Int) != 47) = false := by rw [first47 (unhide HG)]; rfl
    have h3 : ((g.size : Int) == 0) = false := beq_eq_false_iff_ne.2 (by omega)
    have h4 := not_empty h1
    have HR : Hid ((s.extract (s.size - (g.extract 1 g.size).size) s.size).toList = (g.extract 1 g.size).toList) := by
      have e : (g.extract 1 g.size).size = g.size - 1 := by simp
      rw [e]; exact rest_eq (unhide HG)
    go_wp2_with (fail)
    refine (suffix_yes s (g.extract 1 g.size) _ (by omega) ?_ (unhide HR)).mono ?_
    · simp only [ByteArray.size_extract]; omega
    rintro e w1 ⟨rfl, rfl⟩
    clear HR h0 h4
    go_wp2_with (fail)
    refine (zznode_is g g _ (by omega) (by rw [unhide HG, Path.skip_slash, Path.skip_skip])).mono ?_
    rintro e w1 ⟨rfl, rfl⟩
    go_wp2_with (fail)
    refine (zznode_is _ g _ ?_ ?_).mono ?_
    · rw [app_size]; show 1 + s.size ≤ _; omega
    · rw [unhide HG, app_list]; show _ = 47 :: Path.skip (47 :: s.data.toList); rw [Path.skip_slash]
    rintro e w1 ⟨rfl, rfl⟩
    go_wp2_with (fail)
    refine (zznode_is _ g _ ?_ ?_).mono ?_
    · rw [app_size]; show 2 + s.size ≤ _; omega
    · rw [unhide HG, app_list]; show _ = 47 :: Path.skip (46 :: 47 :: s.data.toList); rw [Path.skip_dot]
    rintro e w1 ⟨rfl, rfl⟩
    go_wp2_with (fail)
    refine (zznode_is _ g _ ?_ ?_).mono ?_
    · rw [app_size]; show 5 + s.size ≤ _; omega
    · rw [unhide HG, app_list]; show _ = 47 :: Path.skip (46 :: 47 :: 47 :: 46 :: 47 :: s.data.toList); rw [Path.skip_dot, Path.skip_slash, Path.skip_dot]
    rintro e w1 ⟨rfl, rfl⟩
    go_wp2
    go_ret
    exact ⟨rfl, Grown.refl _⟩
  · go_enter Try.func4, Try.ntmps4
    go_wp2_with (fail)
    refine (bytes2_any s _ hs).mono ?_
    rintro e w' ⟨rfl, rfl⟩
    rw [decide_eq_false h]
    go_wp2
    go_ret
    exact ⟨rfl, Grown.refl _⟩
end Go.Proofs.Qxb6605467a.Node
