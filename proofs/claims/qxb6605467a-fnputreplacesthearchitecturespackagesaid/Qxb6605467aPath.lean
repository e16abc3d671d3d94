/-
  THE PLAIN LAW of nodeName: no Go in sight. 'skip l': l without its leading run of slash and dot-slash pieces. 'only l': is l a run of such pieces?
-/
namespace Go.Proofs.Qxb6605467a.Path

def skip : List UInt8 → List UInt8
  | [] => []
  | [c] => if c = 47 then [] else [c]
  | c :: d :: r => if c = 47 then skip (d :: r) else if c = 46 ∧ d = 47 then skip r else c :: d :: r

def only : List UInt8 → Bool
  | [] => true
  | [c] => decide (c = 47)
  | c :: d :: r => if c = 47 then only (d :: r) else if c = 46 ∧ d = 47 then only r else false

/-- l begins with neither piece -/
def Bare (l : List UInt8) : Prop := (∀ r, l ≠ 47 :: r) ∧ (∀ r, l ≠ 46 :: 47 :: r)

theorem bare_nil : Bare [] := ⟨fun _ h => (by cases h), fun _ h => (by cases h)⟩

theorem skip_slash (r : List UInt8) : skip (47 :: r) = skip r := by
  cases r with
  | nil => simp [skip]
  | cons d r => simp [skip]

theorem skip_dot (r : List UInt8) : skip (46 :: 47 :: r) = skip r := by
  rw [skip, if_neg (by decide), if_pos ⟨rfl, rfl⟩]

theorem skip_bare {l : List UInt8} (h : Bare l) : skip l = l := by
  match l, h with
  | [], _ => rfl
  | [c], h =>
    have : c ≠ 47 := fun e => h.1 [] (by rw [e])
    simp [skip, this]
  | c :: d :: r, h =>
    have h1 : c ≠ 47 := fun e => h.1 (d :: r) (by rw [e])
    have h2 : ¬ (c = 46 ∧ d = 47) := fun e => h.2 r (by rw [e.1, e.2])
    rw [skip, if_neg h1, if_neg h2]

theorem only_slash (r : List UInt8) : only (47 :: r) = only r := by
  cases r with
  | nil => simp [only]
  | cons d r => simp [only]

theorem only_dot (r : List UInt8) : only (46 :: 47 :: r) = only r := by
  rw [only, if_neg (by decide), if_pos ⟨rfl, rfl⟩]

/-- what parts: a slash ahead, dot-slash ahead, or neither -/
theorem parts (l : List UInt8) : (∃ r, l = 47 :: r) ∨ (∃ r, l = 46 :: 47 :: r) ∨ Bare l := by
  match l with
  | [] => exact Or.inr (Or.inr bare_nil)
  | [c] =>
    by_cases e : c = 47
    · exact Or.inl ⟨[], by rw [e]⟩
    · exact Or.inr (Or.inr ⟨fun _ h => by injection h with h1 _; exact e h1, fun _ h => by injection h with _ h2; cases h2⟩)
  | c :: d :: r =>
    by_cases e : c = 47
    · exact Or.inl ⟨d :: r, by rw [e]⟩
    · by_cases e2 : c = 46 ∧ d = 47
      · exact Or.inr (Or.inl ⟨r, by rw [e2.1, e2.2]⟩)
      · refine Or.inr (Or.inr ⟨fun _ h => ?_, fun _ h => ?_⟩)
        · injection h with h1 _
          exact e h1
        · injection h with h1 h2
          injection h2 with h2 _
          exact e2 ⟨h1, h2⟩

theorem only_bare {l : List UInt8} (h : Bare l) (hn : l ≠ []) : only l = false := by
  match l, h with
  | [], _ => exact absurd rfl hn
  | [c], h =>
    have : c ≠ 47 := fun e => h.1 [] (by rw [e])
    simp [only, this]
  | c :: d :: r, h =>
    have h1 : c ≠ 47 := fun e => h.1 (d :: r) (by rw [e])
    have h2 : ¬ (c = 46 ∧ d = 47) := fun e => h.2 r (by rw [e.1, e.2])
    rw [only, if_neg h1, if_neg h2]

/-- the law of 'skip': it cuts a run of pieces away and leaves what begins with neither -/
theorem law_at : ∀ n (l : List UInt8), l.length ≤ n → Bare (skip l) ∧ ∃ k, k ≤ l.length ∧ skip l = l.drop k ∧ only (l.take k) = true
  | 0, l, h => by
    have : l = [] := List.length_eq_zero_iff.1 (by omega)
    subst this
    exact ⟨bare_nil, 0, Nat.le_refl _, rfl, rfl⟩
  | n + 1, l, h => by
    rcases parts l with ⟨r, rfl⟩ | ⟨r, rfl⟩ | hb
    · obtain ⟨h1, k, h2, h3, h4⟩ := law_at n r (by simp at h; omega)
      rw [skip_slash]
      exact ⟨h1, k + 1, by simp; omega, by simpa using h3, by simpa [only_slash] using h4⟩
    · obtain ⟨h1, k, h2, h3, h4⟩ := law_at n r (by simp at h; omega)
      rw [skip_dot]
      exact ⟨h1, k + 2, by simp; omega, by simpa using h3, by simpa [only_dot] using h4⟩
    · rw [skip_bare hb]
      exact ⟨hb, 0, Nat.zero_le _, by simp, by simp [only]⟩

theorem law (l : List UInt8) : Bare (skip l) ∧ ∃ k, k ≤ l.length ∧ skip l = l.drop k ∧ only (l.take k) = true :=
  law_at l.length l (Nat.le_refl _)

theorem skip_le (l : List UInt8) : (skip l).length ≤ l.length := by
  obtain ⟨_, k, h1, h2, _⟩ := law l
  rw [h2, List.length_drop]; omega

theorem skip_skip (l : List UInt8) : skip (skip l) = skip l := skip_bare (law l).1

/-- how many bytes are cut -/
theorem cut_len (l : List UInt8) : l.drop (l.length - (skip l).length) = skip l ∧ only (l.take (l.length - (skip l).length)) = true := by
  obtain ⟨_, k, h1, h2, h3⟩ := law l
  have : l.length - (skip l).length = k := by rw [h2, List.length_drop]; omega
  rw [this]
  exact ⟨h2.symm, h3⟩

end Go.Proofs.Qxb6605467a.Path
