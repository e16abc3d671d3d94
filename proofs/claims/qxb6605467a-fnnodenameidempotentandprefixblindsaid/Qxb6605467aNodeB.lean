import Derived.Test.Qxb6605467aNode
namespace Go.Proofs.Qxb6605467a.Node
open Go.RowKit

theorem drop_at (s : ByteArray) (k : Nat) (h : k < s.size) : s.data.toList.drop k = s[k] :: s.data.toList.drop (k + 1) := by
  rw [List.drop_eq_getElem_cons (by rw [size_list]; exact h)]; rfl
theorem is47 {c : UInt8} (h : ((c.toNat : Int) == 47) = true) : c = 47 := by
  rw [beq_iff_eq] at h
  exact UInt8.toNat_inj.1 (by show c.toNat = 47; omega)
theorem is46 {c : UInt8} (h : (c.toNat : Int) = 46) : c = 46 := UInt8.toNat_inj.1 (by show c.toNat = 46; omega)
theorem not47 {c : UInt8} (h : ((c.toNat : Int) == 47) = false) : c ≠ 47 := by
  intro e
  subst e
  revert h; decide
theorem not46 {c : UInt8} (h : ¬ (c.toNat : Int) = 46) : c ≠ 46 := by
  intro e
  subst e
  exact h rfl

/-- the ways through b1OnlySkips's round -/
theorem way1 {s : ByteArray} {k : Nat} (h : k < s.size) (h1 : ((s[k].toNat : Int) == 47) = true) : Path.only (s.data.toList.drop (k + 1)) = Path.only (s.data.toList.drop k) := by
  rw [drop_at s k h, is47 h1, Path.only_slash]
theorem way2 {s : ByteArray} {k : Nat} (h : k < s.size) (h2 : (s[k].toNat : Int) = 46) (h3 : (k : Int) + 1 < (s.size : Int)) (h4 : ((s[k + 1].toNat : Int) == 47) = true) : Path.only (s.data.toList.drop (k + 2)) = Path.only (s.data.toList.drop k) := by
  rw [drop_at s k h, drop_at s (k + 1) (by omega), is46 h2, is47 h4, Path.only_dot]
theorem bare_of {c : UInt8} {r : List UInt8} (h1 : c ≠ 47) (h2 : c = 46 → ∀ r', r ≠ 47 :: r') : Path.only (c :: r) = false := by
  refine Path.only_bare ⟨fun _ e => ?_, fun _ e => ?_⟩ (by simp)
  · injection e with e _; exact h1 e
  · injection e with e e2; exact h2 e _ e2
theorem way3 {s : ByteArray} {k : Nat} (h : k < s.size) (h1 : ((s[k].toNat : Int) == 47) = false) (h3 : (k : Int) + 1 < (s.size : Int)) (h4 : ((s[k + 1].toNat : Int) == 47) = false) : Path.only (s.data.toList.drop k) = false := by
  rw [drop_at s k h]
  refine bare_of (not47 h1) (fun _ r' e => ?_)
  rw [drop_at s (k + 1) (by omega)] at e
  injection e with e _
  exact not47 h4 e
theorem way4 {s : ByteArray} {k : Nat} (h : k < s.size) (h1 : ((s[k].toNat : Int) == 47) = false) (h3 : (s.size : Int) ≤ (k : Int) + 1) : Path.only (s.data.toList.drop k) = false := by
  rw [drop_at s k h]
  refine bare_of (not47 h1) (fun _ r' e => ?_)
  rw [List.drop_eq_nil_of_le (by rw [size_list]; omega)] at e
  cases e
theorem way5 {s : ByteArray} {k : Nat} (h : k < s.size) (h1 : ((s[k].toNat : Int) == 47) = false) (h2 : ¬ (s[k].toNat : Int) = 46) : Path.only (s.data.toList.drop k) = false := by
  rw [drop_at s k h]
  exact bare_of (not47 h1) (fun e => absurd e (not46 h2))

set_option maxHeartbeats 400000 in
theorem only_any (s : ByteArray) (w : World) (hs : s.size ≤ 1048600) :
    Calls Try.prog 9 #[.string s] w fun e w' => e = .returned (.bool (Path.only s.data.toList)) ∧ w' = w := by
  go_enter Try.func9, Try.ntmps9
  go_wp2
  go_loop [3] (fun i => ∃ k : Nat, i = .int .i64 k ∧ k ≤ s.size ∧ Path.only (s.data.toList.drop k) = Path.only s.data.toList) (fun i => s.size - (intOf i).toNat)
  case atStart => exact ⟨0, rfl, Nat.zero_le _, rfl⟩
  case round =>
    obtain ⟨k, rfl, hk, he⟩ := hrel
    have HE := hide he
    clear he
    by_cases hlt : k < s.size
    · go_wp2
      · exact ⟨⟨k + 1, by go_num, by omega, by rw [way1 hlt ‹_›]; exact unhide HE⟩, by simp [intOf]; omega⟩
      · exact ⟨⟨k + 2, by go_num, by omega, by rw [way2 hlt ‹_› ‹_› ‹_›]; exact unhide HE⟩, by simp [intOf]; omega⟩
      · go_ret
        exact ⟨by rw [← unhide HE, way3 hlt ‹_› ‹_› ‹_›]; rfl, rfl⟩
      · go_ret
        exact ⟨by rw [← unhide HE, way4 hlt ‹_› ‹_›]; rfl, rfl⟩
      · go_ret
        exact ⟨by rw [← unhide HE, way5 hlt ‹_› ‹_›]; rfl, rfl⟩
    · go_wp2
      go_ret
      exact ⟨by rw [← unhide HE, List.drop_eq_nil_of_le (by rw [size_list]; omega)]; rfl, rfl⟩

set_option maxHeartbeats 400000 in
theorem bytes_any (s : ByteArray) (w : World) (hs : s.size ≤ maxLen) :
    Calls Try.prog 7 #[.string s] w fun e w' => e = .returned (.bool (decide (s.size ≤ 1048576))) ∧ w' = w := by
  unfold maxLen at hs
  by_cases h : s.size ≤ 1048576
  · go_enter Try.func7, Try.ntmps7
    go_wp2
    go_ret
    exact ⟨by simp [h], rfl⟩
  · go_enter Try.func7, Try.ntmps7
    go_wp2
    go_ret
    exact ⟨by simp [h], rfl⟩
set_option maxHeartbeats 400000 in
theorem bytes2_any (s : ByteArray) (w : World) (hs : s.size ≤ maxLen) :
    Calls Try.prog 10 #[.string s] w fun e w' => e = .returned (.bool (decide (s.size ≤ 1048576))) ∧ w' = w := by
  unfold maxLen at hs
  by_cases h : s.size ≤ 1048576
  · go_enter Try.func10, Try.ntmps10
    go_wp2
    go_ret
    exact ⟨by simp [h], rfl⟩
  · go_enter Try.func10, Try.ntmps10
    go_wp2
    go_ret
    exact ⟨by simp [h], rfl⟩

set_option maxHeartbeats 400000 in
theorem zznode_any (s : ByteArray) (w : World) (hs : s.size ≤ 1048600) :
    Calls Try.prog 8 #[.string s] w fun e w' => ∃ g : ByteArray, e = .returned (.string g) ∧ g.data.toList = 47 :: Path.skip s.data.toList ∧ w' = w := by
  go_enter Try.func8, Try.ntmps8
  go_wp2_with (fail)
  refine (node_any s _ hs).mono ?_
  rintro e w' ⟨g, rfl, hg, rfl⟩
  have HG := hide hg
  clear hg
  go_wp2
  go_ret
  exact ⟨g, rfl, unhide HG, rfl⟩

end Go.Proofs.Qxb6605467a.Node
