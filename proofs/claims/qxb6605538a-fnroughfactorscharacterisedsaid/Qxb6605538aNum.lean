namespace Go.Proofs.Qxb6605538a.Num

def Prime (p : Nat) : Prop := 2 ≤ p ∧ ∀ d, d ∣ p → d = 1 ∨ d = p

def prod : List Nat → Nat
  | [] => 1
  | x :: l => x * prod l

def sum : List Nat → Nat
  | [] => 0
  | x :: l => x + sum l

theorem euclid {p a b : Nat} (hp : Prime p) (h : p ∣ a * b) : p ∣ a ∨ p ∣ b := by
  have hg : Nat.gcd p a ∣ p := Nat.gcd_dvd_left p a
  rcases hp.2 _ hg with h1 | h1
  · right
    have hc : Nat.Coprime p a := h1
    exact hc.dvd_of_dvd_mul_left h
  · left
    rw [← h1]
    exact Nat.gcd_dvd_right p a

theorem prod_append (l m : List Nat) : prod (l ++ m) = prod l * prod m := by
  induction l with
  | nil => simp [prod]
  | cons x l ih => simp [prod, ih, Nat.mul_assoc]

theorem sum_append (l m : List Nat) : sum (l ++ m) = sum l + sum m := by
  induction l with
  | nil => simp [sum]
  | cons x l ih => simp [sum, ih, Nat.add_assoc]

theorem prod_perm {l m : List Nat} (h : l.Perm m) : prod l = prod m := by
  induction h with
  | nil => rfl
  | cons x _ ih => simp [prod, ih]
  | swap x y l => simp [prod, Nat.mul_left_comm]
  | trans _ _ ih1 ih2 => exact ih1.trans ih2

theorem sum_perm {l m : List Nat} (h : l.Perm m) : sum l = sum m := by
  induction h with
  | nil => rfl
  | cons x _ ih => simp [sum, ih]
  | swap x y l => simp only [sum]; omega
  | trans _ _ ih1 ih2 => exact ih1.trans ih2

theorem prod_pos {l : List Nat} (h : ∀ x ∈ l, Prime x) : 1 ≤ prod l := by
  induction l with
  | nil => simp [prod]
  | cons x l ih =>
    have h1 := (h x (by simp)).1
    have h2 := ih (fun y hy => h y (by simp [hy]))
    simp only [prod]
    exact Nat.mul_pos (by omega) h2

theorem mem_of_dvd {p : Nat} (hp : Prime p) {l : List Nat} (hl : ∀ x ∈ l, Prime x) (h : p ∣ prod l) : p ∈ l := by
  induction l with
  | nil =>
    simp only [prod] at h
    have := Nat.le_of_dvd (by omega) h
    have := hp.1
    omega
  | cons x l ih =>
    simp only [prod] at h
    rcases euclid hp h with h1 | h1
    · rcases (hl x (by simp)).2 p h1 with h2 | h2
      · have := hp.1; omega
      · simp [h2]
    · have := ih (fun y hy => hl y (by simp [hy])) h1
      simp [this]

theorem perm_of_prod : ∀ {l m : List Nat}, (∀ x ∈ l, Prime x) → (∀ x ∈ m, Prime x) → prod l = prod m → l.Perm m
  | [], m, _, hm, h => by
    cases m with
    | nil => exact List.Perm.refl _
    | cons x m =>
      have h1 := (hm x (by simp)).1
      have h2 := prod_pos (l := m) (fun y hy => hm y (by simp [hy]))
      simp only [prod] at h
      have : 2 * 1 ≤ x * prod m := Nat.mul_le_mul h1 h2
      omega
  | x :: l, m, hl, hm, h => by
    have hx := hl x (by simp)
    have hmem : x ∈ m := mem_of_dvd hx hm (by rw [← h]; simp only [prod]; exact Nat.dvd_mul_right _ _)
    have hp : m.Perm (x :: m.erase x) := List.perm_cons_erase hmem
    have he : prod l = prod (m.erase x) := by
      have h3 := prod_perm hp
      rw [← h] at h3
      simp only [prod] at h3
      exact Nat.eq_of_mul_eq_mul_left (by have := hx.1; omega) h3
    have ih := perm_of_prod (l := l) (m := m.erase x) (fun y hy => hl y (by simp [hy])) (fun y hy => hm y (List.mem_of_mem_erase hy)) he
    exact (List.Perm.cons x ih).trans hp.symm

theorem prime2 : Prime 2 := ⟨by omega, fun d h => by
  have := Nat.le_of_dvd (by omega) h
  rcases h with ⟨k, hk⟩
  have : d = 0 ∨ d = 1 ∨ d = 2 := by omega
  rcases this with rfl | rfl | rfl <;> omega⟩
theorem prime3 : Prime 3 := ⟨by omega, fun d h => by
  have := Nat.le_of_dvd (by omega) h
  rcases h with ⟨k, hk⟩
  have : d = 0 ∨ d = 1 ∨ d = 2 ∨ d = 3 := by omega
  rcases this with rfl | rfl | rfl | rfl <;> omega⟩
theorem prime5 : Prime 5 := ⟨by omega, fun d h => by
  have := Nat.le_of_dvd (by omega) h
  rcases h with ⟨k, hk⟩
  have : d = 0 ∨ d = 1 ∨ d = 2 ∨ d = 3 ∨ d = 4 ∨ d = 5 := by omega
  rcases this with rfl | rfl | rfl | rfl | rfl | rfl <;> omega⟩

/-- a list of twos, threes and fives -/
def Small (l : List Nat) : Prop := ∀ x ∈ l, x = 2 ∨ x = 3 ∨ x = 5
/-- a list of primes from 7 on -/
def Big (l : List Nat) : Prop := ∀ x ∈ l, Prime x ∧ 7 ≤ x

theorem small_prime {l : List Nat} (h : Small l) : ∀ x ∈ l, Prime x := by
  intro x hx
  rcases h x hx with rfl | rfl | rfl
  · exact prime2
  · exact prime3
  · exact prime5
theorem big_prime {l : List Nat} (h : Big l) : ∀ x ∈ l, Prime x := fun x hx => (h x hx).1

theorem small_filter {l : List Nat} (h : Small l) : l.filter (fun x => decide (7 ≤ x)) = [] := by
  rw [List.filter_eq_nil_iff]
  intro x hx
  rcases h x hx with rfl | rfl | rfl <;> simp
theorem big_filter {l : List Nat} (h : Big l) : l.filter (fun x => decide (7 ≤ x)) = l := by
  rw [List.filter_eq_self]
  intro x hx
  simpa using (h x hx).2

/-- the part prime to 30 and its primes are one, however a number is parted -/
theorem parted {Q L Q' L' : List Nat} (hQ : Small Q) (hL : Big L) (hQ' : Small Q') (hL' : Big L') (h : prod Q * prod L = prod Q' * prod L') : prod L = prod L' ∧ sum L = sum L' := by
  have hp : (Q ++ L).Perm (Q' ++ L') := by
    refine perm_of_prod ?_ ?_ ?_
    · intro x hx
      rcases List.mem_append.1 hx with hx | hx
      · exact small_prime hQ x hx
      · exact big_prime hL x hx
    · intro x hx
      rcases List.mem_append.1 hx with hx | hx
      · exact small_prime hQ' x hx
      · exact big_prime hL' x hx
    · rw [prod_append, prod_append, h]
  have hf := hp.filter (fun x => decide (7 ≤ x))
  rw [List.filter_append, List.filter_append, small_filter hQ, small_filter hQ', big_filter hL, big_filter hL'] at hf
  simp only [List.nil_append] at hf
  exact ⟨prod_perm hf, sum_perm hf⟩

theorem sum_le_prod {l : List Nat} (h : ∀ x ∈ l, 2 ≤ x) : sum l ≤ prod l ∧ (l ≠ [] → 2 ≤ prod l) := by
  induction l with
  | nil => simp [sum, prod]
  | cons x l ih =>
    have hx := h x (by simp)
    have ih := ih (fun y hy => h y (by simp [hy]))
    cases l with
    | nil => simp only [sum, prod]; exact ⟨by omega, fun _ => by omega⟩
    | cons y l =>
      have h2 := ih.2 (by simp)
      have h1 := ih.1
      generalize hs : sum (y :: l) = s at *
      generalize hp : prod (y :: l) = q at *
      have e1 : prod (x :: y :: l) = x * q := by rw [← hp]; rfl
      have e2 : sum (x :: y :: l) = x + s := by rw [← hs]; rfl
      rw [e1, e2]
      obtain ⟨a, rfl⟩ := Nat.exists_eq_add_of_le hx
      obtain ⟨b, rfl⟩ := Nat.exists_eq_add_of_le h2
      have e : (2 + a) * (2 + b) = 4 + 2 * a + 2 * b + a * b := by simp only [Nat.add_mul, Nat.mul_add]; omega
      have : 0 ≤ a * b := Nat.zero_le _
      omega

theorem big_two {l : List Nat} (h : Big l) : ∀ x ∈ l, 2 ≤ x := fun x hx => by have := (h x hx).2; omega

/-- what 'roughCheck' asks of the sum -/
theorem check_sum {L : List Nat} (hL : Big L) : (prod L = 1 → sum L = 0) ∧ (Prime (prod L) → sum L = prod L) ∧ (1 < prod L → ¬ Prime (prod L) → 14 ≤ sum L ∧ sum L < prod L) := by
  cases L with
  | nil => simp [prod, sum, Prime]
  | cons x L =>
    have hx := hL x (by simp)
    have hL' : Big L := fun y hy => hL y (by simp [hy])
    have hb := sum_le_prod (big_two hL')
    cases L with
    | nil =>
      simp only [prod, sum, Nat.mul_one, Nat.add_zero]
      exact ⟨by omega, fun _ => trivial, fun _ h => absurd hx.1 h⟩
    | cons y L =>
      have hy := hL' y (by simp)
      have h2 := hb.2 (by simp)
      have h7 : 7 ≤ sum (y :: L) := by simp only [sum]; omega
      have h7p : 7 ≤ prod (y :: L) := Nat.le_trans h7 hb.1
      generalize hs : sum (y :: L) = s at *
      generalize hp : prod (y :: L) = q at *
      have e1 : prod (x :: y :: L) = x * q := by simp only [prod, ← hp]
      have e2 : sum (x :: y :: L) = x + s := by simp only [sum, ← hs]
      rw [e1, e2]
      have h77 : x + q < x * q := by
        obtain ⟨a, ha⟩ := Nat.exists_eq_add_of_le hx.2
        obtain ⟨b, rfl⟩ := Nat.exists_eq_add_of_le h7p
        subst ha
        have e : (7 + a) * (7 + b) = 49 + 7 * a + 7 * b + a * b := by simp only [Nat.add_mul, Nat.mul_add]; omega
        have : 0 ≤ a * b := Nat.zero_le _
        omega
      refine ⟨by omega, ?_, fun _ _ => by omega⟩
      intro hpr
      rcases hpr.2 x (Nat.dvd_mul_right _ _) with h | h
      · omega
      · exfalso; omega

end Go.Proofs.Qxb6605538a.Num
