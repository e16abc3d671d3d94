/-
  THE PLAIN LAW of a script of puts: no Go in sight. The packages are numbered; 'arch', 'gone', 'multi' say of each its architecture, whether it is not installed, whether it is Multi-Arch: same.
-/
namespace Go.Proofs.Qxb6605467a.Script

theorem erase_unique {p : Nat → Bool} : ∀ {l : List Nat}, l.Nodup → (∀ x ∈ l, ∀ y ∈ l, p x = true → p y = true → x = y) → l.eraseIdx (l.findIdx p) = l.filter (fun x => !p x)
  | [], _, _ => by simp
  | x :: l, hn, h => by
    have hn' := List.nodup_cons.1 hn
    cases hp : p x
    · have ih := erase_unique hn'.2 (fun a ha b hb => h a (by simp [ha]) b (by simp [hb]))
      rw [List.findIdx_cons, hp]
      simp [hp, ih]
    · have hf : ∀ y ∈ l, p y = false := by
        intro y hy
        cases e : p y
        · rfl
        · have := h x (by simp) y (by simp [hy]) hp e
          subst this
          exact absurd hy hn'.1
      rw [List.findIdx_cons, hp]
      simp only [cond_true, List.eraseIdx_cons_zero]
      rw [List.filter_cons, hp]
      simp only [Bool.not_true, Bool.false_eq_true, if_false]
      rw [List.filter_eq_self.2]
      intro y hy
      simp [hf y hy]

variable (arch : Nat → List UInt8) (gone multi : Nat → Bool)

def spotI (is : List Nat) (i : Nat) : Nat := is.findIdx (fun j => arch j == arch i)
def putI (is : List Nat) (i : Nat) : List Nat := if gone i then is.eraseIdx (spotI arch is i) else is.eraseIdx (spotI arch is i) ++ [i]
def st : Nat → List Nat
  | 0 => []
  | k + 1 => putI arch gone (st k) k

/-- j is put, is installed, and no put of its architecture follows up to n -/
def lastOf (n j : Nat) : Bool := !gone j && (List.range n).all (fun m => !(decide (j < m) && (arch m == arch j)))

theorem lastOf_iff (n j : Nat) : lastOf arch gone n j = true ↔ gone j = false ∧ ∀ m, m < n → j < m → arch m ≠ arch j := by
  simp only [lastOf, Bool.and_eq_true, Bool.not_eq_true', List.all_eq_true, List.mem_range, Bool.and_eq_false_iff, decide_eq_false_iff_not, beq_eq_false_iff_ne]
  constructor
  · rintro ⟨h1, h2⟩
    exact ⟨h1, fun m hm hj => by rcases h2 m hm with h | h; · exact absurd hj h
                                 · exact h⟩
  · rintro ⟨h1, h2⟩
    refine ⟨h1, fun m hm => ?_⟩
    by_cases hj : j < m
    · exact Or.inr (h2 m hm hj)
    · exact Or.inl hj

theorem lastOf_succ (k j : Nat) (hj : j < k) : lastOf arch gone (k + 1) j = (lastOf arch gone k j && !(arch j == arch k)) := by
  rw [Bool.eq_iff_iff, lastOf_iff, Bool.and_eq_true, lastOf_iff, Bool.not_eq_true', beq_eq_false_iff_ne]
  constructor
  · rintro ⟨h1, h2⟩
    exact ⟨⟨h1, fun m hm hjm => h2 m (by omega) hjm⟩, fun e => h2 k (by omega) hj e.symm⟩
  · rintro ⟨⟨h1, h2⟩, h3⟩
    refine ⟨h1, fun m hm hjm e => ?_⟩
    by_cases hmk : m = k
    · subst hmk; exact h3 e.symm
    · exact h2 m (by omega) hjm e
theorem lastOf_self (k : Nat) : lastOf arch gone (k + 1) k = !gone k := by
  rw [Bool.eq_iff_iff, lastOf_iff]
  constructor
  · rintro ⟨h, _⟩; simp [h]
  · intro h
    exact ⟨by simpa using h, fun m hm hkm => by omega⟩

theorem filter_congr' {p q : Nat → Bool} : ∀ {l : List Nat}, (∀ x ∈ l, p x = q x) → l.filter p = l.filter q
  | [], _ => rfl
  | x :: l, h => by
    rw [List.filter_cons, List.filter_cons, h x (by simp), filter_congr' (fun y hy => h y (by simp [hy]))]

theorem st_eq : ∀ k, st arch gone k = (List.range k).filter (lastOf arch gone k)
  | 0 => rfl
  | k + 1 => by
    have ih := st_eq k
    have hE : (st arch gone k).eraseIdx (spotI arch (st arch gone k) k) = (List.range k).filter (lastOf arch gone (k + 1)) := by
      rw [spotI, erase_unique]
      · rw [ih, List.filter_filter]
        refine filter_congr' (fun j hj => ?_)
        rw [lastOf_succ arch gone k j (List.mem_range.1 hj), Bool.and_comm]
      · rw [ih]
        exact List.nodup_range.filter _
      · intro x hx y hy hpx hpy
        rw [ih, List.mem_filter, List.mem_range] at hx hy
        have ex := (lastOf_iff arch gone k x).1 hx.2
        have ey := (lastOf_iff arch gone k y).1 hy.2
        have e : arch x = arch y := (beq_iff_eq.1 hpx).trans (beq_iff_eq.1 hpy).symm
        rcases Nat.lt_trichotomy x y with h | h | h
        · exact absurd e.symm (ex.2 y hy.1 h)
        · exact h
        · exact absurd e (ey.2 x hx.1 h)
    rw [st, putI, hE, List.range_succ, List.filter_append]
    cases hg : gone k
    · rw [List.filter_cons, lastOf_self, hg]
      simp
    · rw [List.filter_cons, lastOf_self, hg]
      simp

/-- how many are not Multi-Arch: same -/
def cnt (is : List Nat) : Int := ((is.filter (fun j => !multi j)).length : Int)
theorem cnt_nonneg (is : List Nat) : 0 ≤ cnt multi is := by unfold cnt; omega
theorem cnt_le (is : List Nat) : cnt multi is ≤ is.length := by
  unfold cnt
  have := List.length_filter_le (fun j => !multi j) is
  omega
theorem cnt_snoc (is : List Nat) (i : Nat) : cnt multi (is ++ [i]) = cnt multi is + (if multi i then 0 else 1) := by
  unfold cnt
  rw [List.filter_append, List.length_append, List.filter_cons]
  cases multi i <;> simp
theorem cnt_erase : ∀ (is : List Nat) (t : Nat), cnt multi (is.eraseIdx t) = cnt multi is - (if t < is.length then (if multi (is.getD t 0) then 0 else 1) else 0)
  | [], t => by simp [cnt]
  | x :: is, 0 => by
    simp only [List.eraseIdx_cons_zero, List.length_cons, Nat.zero_lt_succ, if_true, List.getD_cons_zero]
    unfold cnt
    rw [List.filter_cons]
    cases multi x <;> simp
  | x :: is, t + 1 => by
    have ih := cnt_erase is t
    have hx : ∀ l : List Nat, cnt multi (x :: l) = cnt multi l + (if multi x then 0 else 1) := by
      intro l
      unfold cnt
      rw [List.filter_cons]
      cases multi x <;> simp
    rw [List.eraseIdx_cons_succ, hx, hx, ih]
    simp only [List.length_cons, List.getD_cons_succ, Nat.add_lt_add_iff_right]
    omega

theorem st_le (k : Nat) : (st arch gone k).length ≤ k := by
  rw [st_eq]
  have := List.length_filter_le (lastOf arch gone k) (List.range k)
  simpa using this
theorem st_lt (k : Nat) : ∀ j ∈ st arch gone k, j < k := by
  intro j hj
  rw [st_eq, List.mem_filter, List.mem_range] at hj
  exact hj.1

/-- the first j of the numbers, those that are last -/
def head (n j : Nat) : List Nat := (List.range j).filter (lastOf arch gone n)
theorem head_zero (n : Nat) : head arch gone n 0 = [] := rfl
theorem head_succ (n j : Nat) : head arch gone n (j + 1) = if lastOf arch gone n j then head arch gone n j ++ [j] else head arch gone n j := by
  rw [head, List.range_succ, List.filter_append, List.filter_cons]
  cases lastOf arch gone n j <;> simp [head]
theorem head_le (n j : Nat) : (head arch gone n j).length ≤ j := by
  have := List.length_filter_le (lastOf arch gone n) (List.range j)
  simpa [head] using this
theorem head_all (n : Nat) : head arch gone n n = st arch gone n := (st_eq arch gone n).symm
theorem range_split (n j : Nat) (h : j ≤ n) : ∃ r, List.range n = List.range j ++ r := by
  refine ⟨(List.range n).drop j, ?_⟩
  have := List.take_append_drop j (List.range n)
  rw [List.take_range, Nat.min_eq_left h] at this
  exact this.symm
/-- where j is last, it stands in the list at the place that is the head's length -/
theorem head_at (n j : Nat) (hj : j < n) (h : lastOf arch gone n j = true) : (head arch gone n j).length < (st arch gone n).length ∧ (st arch gone n).getD (head arch gone n j).length 0 = j := by
  obtain ⟨r, hr⟩ := range_split n (j + 1) hj
  have e : st arch gone n = head arch gone n j ++ (j :: r.filter (lastOf arch gone n)) := by
    rw [st_eq, hr, List.filter_append]
    show head arch gone n (j + 1) ++ _ = _
    rw [head_succ, if_pos h, List.append_assoc]
    rfl
  rw [e]
  refine ⟨by simp, ?_⟩
  rw [List.getD_eq_getElem?_getD, List.getElem?_append_right (Nat.le_refl _)]
  simp

end Go.Proofs.Qxb6605467a.Script
