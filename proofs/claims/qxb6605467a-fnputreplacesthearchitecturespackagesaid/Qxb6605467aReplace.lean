/-
  THE PLAIN LAW of one put into a list of packages of distinct architectures: no Go in sight. Number m is the package that is put.
-/
import Derived.Test.Qxb6605467aScript
namespace Go.Proofs.Qxb6605467a.Script

variable (arch : Nat → List UInt8) (gone multi : Nat → Bool)

/-- of the first i numbers, those of another architecture than m's -/
def keep (m i : Nat) : List Nat := (List.range i).filter (fun j => !(arch j == arch m))
theorem keep_zero (m : Nat) : keep arch m 0 = [] := rfl
theorem keep_yes (m i : Nat) (h : arch i ≠ arch m) : keep arch m (i + 1) = keep arch m i ++ [i] := by
  rw [keep, List.range_succ, List.filter_append]
  simp [keep, h]
theorem keep_no (m i : Nat) (h : arch i = arch m) : keep arch m (i + 1) = keep arch m i := by
  rw [keep, List.range_succ, List.filter_append]
  simp [keep, h]
theorem keep_le (m i : Nat) : (keep arch m i).length ≤ i := by
  have := List.length_filter_le (fun j => !(arch j == arch m)) (List.range i)
  simpa [keep] using this
theorem keep_lt (m i : Nat) : ∀ j ∈ keep arch m i, j < i := by
  intro j hj
  rw [keep, List.mem_filter, List.mem_range] at hj
  exact hj.1

theorem erase_keep (m : Nat) (hd : ∀ a b, a < b → b < m → arch a ≠ arch b) : (List.range m).eraseIdx (spotI arch (List.range m) m) = keep arch m m := by
  rw [spotI, erase_unique List.nodup_range]
  · rfl
  · intro x hx y hy hpx hpy
    rw [List.mem_range] at hx hy
    have e : arch x = arch y := (beq_iff_eq.1 hpx).trans (beq_iff_eq.1 hpy).symm
    rcases Nat.lt_trichotomy x y with h | h | h
    · exact absurd e (hd x y h hy)
    · exact h
    · exact absurd e.symm (hd y x h hx)

theorem put_keep (m : Nat) (hd : ∀ a b, a < b → b < m → arch a ≠ arch b) : putI arch gone (List.range m) m = if gone m then keep arch m m else keep arch m m ++ [m] := by
  rw [putI, erase_keep arch m hd]

/-- the count of the first k of a list -/
theorem cnt_take_succ (is : List Nat) (k : Nat) (h : k < is.length) : cnt multi (is.take (k + 1)) = cnt multi (is.take k) + (if multi (is.getD k 0) then 0 else 1) := by
  rw [List.take_succ_eq_append_getElem h, cnt_snoc, List.getD_eq_getElem?_getD, List.getElem?_eq_getElem h]
  rfl
theorem cnt_range_succ (i : Nat) : cnt multi (List.range (i + 1)) = cnt multi (List.range i) + (if multi i then 0 else 1) := by
  rw [List.range_succ, cnt_snoc]

end Go.Proofs.Qxb6605467a.Script
