/-
  THE WALKS of nodeName and what it calls: it answers a slash and the path without its leading pieces; the world stands.
-/
import Derived.Test.Qxb6605467aRows
import Derived.Test.Qxb6605467aPath
import Derived.WalkKit
import Derived.WalkSpells
import Derived.WalkLawsBesides
import Derived.Lib.Strings
namespace Go.Proofs.Qxb6605467a.Node
open Go.RowKit

theorem bytes_ext {a b : ByteArray} (h : a.data.toList = b.data.toList) : a = b := by
  rw [← Lib.mk_data a, ← Lib.mk_data b, h]

theorem size_of {s : ByteArray} {l : List UInt8} (h : s.data.toList = l) : s.size = l.length := by
  rw [Lib.size_eq, h]
theorem size_mk (r : List UInt8) : (⟨r.toArray⟩ : ByteArray).size = r.length := rfl
theorem size_slash {s : ByteArray} {r : List UInt8} (h : s.data.toList = 47 :: r) : (⟨r.toArray⟩ : ByteArray).size + 1 = s.size := by
  rw [size_of h]; rfl
theorem size_dot {s : ByteArray} {r : List UInt8} (h : s.data.toList = 46 :: 47 :: r) : (⟨r.toArray⟩ : ByteArray).size + 2 = s.size := by
  rw [size_of h]; rfl

theorem hide {p : Prop} (h : p) : Hid p := h
theorem unhide {p : Prop} (h : Hid p) : p := h

theorem size_list (s : ByteArray) : s.data.toList.length = s.size := by
  rw [Lib.size_eq]

set_option maxHeartbeats 400000 in
theorem cut_yes (s p : ByteArray) (w : World) (hl : p.size ≤ s.size) (h : ((s.extract 0 p.size).toList == p.toList) = true) :
    Calls Try.prog 22 #[.string s, .string p] w fun e w' => e = .returned (.tuple #[.string (s.extract p.size s.size), .bool true]) ∧ w' = w := by
  go_enter Try.func22, Try.ntmps22
  go_wp2
  go_ret2
  exact ⟨rfl, rfl⟩

set_option maxHeartbeats 400000 in
theorem cut_no (s p : ByteArray) (w : World) (hl : p.size ≤ s.size) (h : ((s.extract 0 p.size).toList == p.toList) = false) :
    Calls Try.prog 22 #[.string s, .string p] w fun e w' => e = .returned (.tuple #[.string s, .bool false]) ∧ w' = w := by
  go_enter Try.func22, Try.ntmps22
  go_wp2
  go_ret2
  exact ⟨rfl, rfl⟩

set_option maxHeartbeats 400000 in
theorem cut_short (s p : ByteArray) (w : World) (hl : s.size < p.size) :
    Calls Try.prog 22 #[.string s, .string p] w fun e w' => e = .returned (.tuple #[.string s, .bool false]) ∧ w' = w := by
  go_enter Try.func22, Try.ntmps22
  go_wp2
  go_ret2
  exact ⟨rfl, rfl⟩

/-- strings.CutPrefix at an opening that is there -/
theorem cut_hit (s p : ByteArray) (w : World) (r : List UInt8) (h : s.data.toList = p.data.toList ++ r) :
    Calls Try.prog 22 #[.string s, .string p] w fun e w' => e = .returned (.tuple #[.string ⟨r.toArray⟩, .bool true]) ∧ w' = w := by
  have hs : s.size = p.size + r.length := by rw [← size_list, h, List.length_append, size_list]
  have hp : p.data.toList.length = p.size := size_list p
  have h1 : ((s.extract 0 p.size).toList == p.toList) = true := by
    rw [Lib.extract_toList, h, Lib.toList_data, ← hp, List.drop_zero, Nat.sub_zero, List.take_left]
    exact beq_self_eq_true _
  have h2 : s.extract p.size s.size = ⟨r.toArray⟩ := by
    apply bytes_ext
    rw [Lib.extract_data, h, hs, ← hp, List.drop_left, Nat.add_sub_cancel_left, List.take_length]
  rw [← h2]
  exact cut_yes s p w (by omega) h1

/-- strings.CutPrefix at an opening that is not there -/
theorem cut_miss (s p : ByteArray) (w : World) (h : ∀ r, s.data.toList ≠ p.data.toList ++ r) :
    Calls Try.prog 22 #[.string s, .string p] w fun e w' => e = .returned (.tuple #[.string s, .bool false]) ∧ w' = w := by
  by_cases hl : p.size ≤ s.size
  · refine cut_no s p w hl ?_
    rw [Lib.extract_toList, Lib.toList_data]
    rw [beq_eq_false_iff_ne]
    intro e
    refine h (s.data.toList.drop p.size) ?_
    rw [← e]
    simp
  · exact cut_short s p w (by omega)

set_option maxHeartbeats 400000 in
theorem node_any (s : ByteArray) (w : World) (hs : s.size ≤ 1048600) :
    Calls Try.prog 19 #[.string s] w fun e w' => ∃ g : ByteArray, e = .returned (.string g) ∧ g.data.toList = 47 :: Path.skip s.data.toList ∧ w' = w := by
  go_enter Try.func19, Try.ntmps19
  go_wp2
  go_loop [0, 3, 4] (fun p r o => ∃ b : ByteArray, p = .string b ∧ b.size ≤ s.size ∧ Path.skip b.data.toList = Path.skip s.data.toList) (fun p _ _ => match p with | .string b => b.size | _ => 0)
  case atStart => exact ⟨s, rfl, Nat.le_refl _, rfl⟩
  case round =>
    obtain ⟨b, rfl, hb, he⟩ := hrel
    have HE := hide he
    clear he
    go_wp2_with (fail)
    rcases Path.parts b.data.toList with ⟨r, hr⟩ | ⟨r, hr⟩ | hr
    · have Hr := hide hr
      clear hr
      refine (cut_hit b ⟨#[47]⟩ _ r (unhide Hr)).mono ?_
      rintro e w' ⟨rfl, rfl⟩
      go_wp2
      go_round
      case rel => exact ⟨_, rfl, by have h := size_slash (unhide Hr); omega, by rw [← unhide HE, unhide Hr, Path.skip_slash]⟩
      case measure => have h := size_slash (unhide Hr); show ByteArray.size _ < ByteArray.size _; omega
    · have Hr := hide hr
      clear hr
      refine (cut_miss b ⟨#[47]⟩ _ (fun r' h => ?_)).mono ?_
      · rw [unhide Hr] at h; simp at h
      rintro e w' ⟨rfl, rfl⟩
      go_wp2_with (fail)
      refine (cut_hit b ⟨#[46, 47]⟩ _ r (unhide Hr)).mono ?_
      rintro e w' ⟨rfl, rfl⟩
      go_wp2
      go_round
      case rel => exact ⟨_, rfl, by have h := size_dot (unhide Hr); omega, by rw [← unhide HE, unhide Hr, Path.skip_dot]⟩
      case measure => have h := size_dot (unhide Hr); show ByteArray.size _ < ByteArray.size _; omega
    · have Hr := hide hr
      clear hr
      refine (cut_miss b ⟨#[47]⟩ _ (fun r' h => ?_)).mono ?_
      · exact (unhide Hr).1 _ h
      rintro e w' ⟨rfl, rfl⟩
      go_wp2_with (fail)
      refine (cut_miss b ⟨#[46, 47]⟩ _ (fun r' h => ?_)).mono ?_
      · exact (unhide Hr).2 _ h
      rintro e w' ⟨rfl, rfl⟩
      go_wp2
      go_ret
      exact ⟨_, rfl, by rw [← unhide HE, Path.skip_bare (unhide Hr)]; rfl, rfl⟩
end Go.Proofs.Qxb6605467a.Node
