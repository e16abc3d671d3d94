/-
  THE WALK of FnNodeNameIsSlashAndUnskippedRest: it returns true at every path.
-/
import Derived.Test.Qxb6605467aNodeB
namespace Go.Proofs.Qxb6605467a.Node
open Go.RowKit

theorem not_empty {g : ByteArray} (h : 1 ≤ g.size) : ¬ g = ByteArray.empty := by
  intro e
  rw [e] at h
  exact absurd h (by decide)
theorem first47 {g : ByteArray} {l : List UInt8} (h : g.data.toList = 47 :: l) (hb : 0 < g.size) : g[0] = 47 := by
  have e : g[0] = g.data.toList[0]'(by rw [size_list]; exact hb) := rfl
  rw [e]
  simp only [h, List.getElem_cons_zero]
theorem rest_list {g : ByteArray} {l : List UInt8} (h : g.data.toList = 47 :: l) : (g.extract 1 g.size).data.toList = l := by
  rw [Lib.extract_data, h, size_of h]
  simp
theorem rest_eq {s g : ByteArray} (h : g.data.toList = 47 :: Path.skip s.data.toList) : (s.extract (s.size - (g.size - 1)) s.size).toList = (g.extract 1 g.size).toList := by
  rw [Lib.toList_data, Lib.toList_data, rest_list h, Lib.extract_data, size_of h, ← size_list s]
  rw [List.length_cons, Nat.add_sub_cancel, (Path.cut_len s.data.toList).1, List.take_of_length_le]
  have := Path.skip_le s.data.toList
  omega
theorem head_only {s g : ByteArray} (h : g.data.toList = 47 :: Path.skip s.data.toList) : Path.only (s.extract 0 (s.size - (g.size - 1))).data.toList = true := by
  rw [Lib.extract_data, size_of h, ← size_list s]
  rw [List.length_cons, Nat.add_sub_cancel, List.drop_zero, Nat.sub_zero]
  exact (Path.cut_len s.data.toList).2

theorem dead1 {t : ByteArray} (h : Path.Bare t.data.toList) (h0 : 0 < t.size) : ((t[0].toNat : Int) == 47) = false := by
  rw [beq_eq_false_iff_ne]
  intro e
  refine h.1 (t.data.toList.drop 1) ?_
  have e0 := drop_at t 0 h0
  rw [List.drop_zero] at e0
  rw [is47 (beq_iff_eq.2 e)] at e0
  exact e0
theorem dead2 {t : ByteArray} (h : Path.Bare t.data.toList) (h0 : 1 < t.size) (h1 : (t[0].toNat : Int) = 46) : ((t[1].toNat : Int) == 47) = false := by
  rw [beq_eq_false_iff_ne]
  intro e
  refine h.2 (t.data.toList.drop 2) ?_
  have e0 := drop_at t 0 (by omega)
  rw [List.drop_zero, drop_at t (0 + 1) h0] at e0
  rw [is46 h1, is47 (beq_iff_eq.2 e)] at e0
  exact e0

set_option maxHeartbeats 400000 in
theorem walk (s : ByteArray) (hs : s.size ≤ maxLen) (w : World) :
    Calls Try.prog 3 #[.string s] w fun e w' => e = .returned (.bool true) ∧ Grown w w' := by
  unfold maxLen at hs
  by_cases h : s.size ≤ 1048576
  · go_enter Try.func3, Try.ntmps3
    go_wp2_with (fail)
    refine (bytes_any s _ hs).mono ?_
    rintro e w' ⟨rfl, rfl⟩
    rw [decide_eq_true h]
    go_wp2_with (fail)
    refine (zznode_any s _ (by omega)).mono ?_
    rintro e w' ⟨g, rfl, hg, rfl⟩
    have hz : g.size = (Path.skip s.data.toList).length + 1 := by rw [size_of hg]; rfl
    have HG := hide hg
    have HZ := hide hz
    clear hg hz
    have h1 : 1 ≤ g.size := by rw [unhide HZ]; omega
    have h2 : g.size ≤ s.size + 1 := by rw [unhide HZ]; have := Path.skip_le s.data.toList; rw [size_list] at this; omega
    have h0 : ((g[0].toNat : Int) != 47) = false := by rw [first47 (unhide HG)]; rfl
    have h3 : ((g.size : Int) == 0) = false := beq_eq_false_iff_ne.2 (by omega)
    have h4 := not_empty h1
    have hr := rest_eq (unhide HG)
    have HB : Hid (Path.Bare (g.extract 1 g.size).data.toList) := by rw [rest_list (unhide HG)]; exact (Path.law _).1
    have hx : (g.extract 1 g.size).size = g.size - 1 := by simp
    have HX := hide hx
    clear hx
    go_wp2_with (fail)
    · rename_i _ c
      rw [dead1 (unhide HB) (by rw [unhide HX]; omega)] at c
      cases c
    · rename_i c0 c
      rw [dead2 (unhide HB) (by rw [unhide HX]; omega) c0] at c
      cases c
    all_goals
      refine (only_any (s.extract 0 (s.size - (g.size - 1))) _ ?_).mono ?_
      · simp only [ByteArray.size_extract]; omega
      · rintro e w1 ⟨rfl, rfl⟩
        rw [head_only (unhide HG)]
        clear HB HG HZ HX hr h0 h4
        go_wp2
        go_ret
        exact ⟨rfl, Grown.refl _⟩
  · go_enter Try.func3, Try.ntmps3
    go_wp2_with (fail)
    refine (bytes_any s _ hs).mono ?_
    rintro e w' ⟨rfl, rfl⟩
    rw [decide_eq_false h]
    go_wp2
    go_ret
    exact ⟨rfl, by repeat (first | exact Grown.refl _ | apply Grown.drew | apply Grown.alloc)⟩
end Go.Proofs.Qxb6605467a.Node
