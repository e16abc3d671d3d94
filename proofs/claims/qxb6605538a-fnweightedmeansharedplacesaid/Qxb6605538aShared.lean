/-
  WHERE EVERY POINT OF POSITIVE WEIGHT STANDS AT ONE PLACE: the plain law.
-/
import Derived.Test.Qxb6605538aFltOps
import Derived.Test.Qxb6605538aMean
namespace Go.Proofs.Qxb6605538a.WF
open Go.RowKit Ieee Flt

/-- the value of a finite float, in units -/
def val (x : Nat) : Int := match double.read x with
  | .number s m i => sg s (m * 2 ^ (i + 1074).toNat)
  | _ => 0
theorem val_of {x : Nat} {v : Int} (h : R x v) : val x = v := by
  obtain ⟨s, m, i, h1, _, rfl⟩ := h
  unfold val
  rw [h1]
theorem R_val {x : Nat} {v : Int} (h : R x v) : R x (val x) := by rw [val_of h]; exact h

/-- 2^1000, in units -/
def two (n : Nat) : Nat := 2 ^ n
def far : Nat := two 2074
theorem dbl_lt (n m : Nat) (h : n + 1 < m) : 2 ^ n + 2 ^ n < 2 ^ m := by
  rw [← Nat.two_mul, Nat.mul_comm, ← Nat.pow_succ]
  exact Nat.pow_lt_pow_right (by omega) h
theorem nought_lt (n : Nat) : (0 + 0 : Int).natAbs < 2 ^ n := Nat.pow_pos (by omega)
theorem far_of (n : Nat) (h : far = two n) (h2 : n + 1 < 2096) : far + far < 2 ^ 2096 := by rw [h]; exact dbl_lt n 2096 h2
theorem far_lt : far + far < 2 ^ 2096 := far_of 2074 rfl (by omega)

theorem hv_max (h : Nat → Nat) (n : Nat) (h1 : 1 ≤ n) (hR : ∀ i, i < n → R (h i) (val (h i))) : ∀ k, k ≤ n → ∀ i, i < k → val (h i) ≤ val (h (hv h k))
  | 0, _, i, hi => by omega
  | k + 1, hk, i, hi => by
    have ho := R_order (hR k (by omega)) (hR (hv h k) (hv_lt h n h1 k (by omega)))
    have ih := hv_max h n h1 hR k (by omega)
    by_cases ht : (FloatKind.f64.format.order (h k) (h (hv h k)) == some .gt) = true
    · rw [hv_yes h k ht]
      have hgt : val (h (hv h k)) < val (h k) := by
        have h2 : (double.order (h k) (h (hv h k)) == some .gt) = true := ht
        rw [ho] at h2
        exact cmp_gt.1 (by simpa using h2)
      rcases Nat.lt_or_ge i k with h | h
      · have := ih i h; omega
      · have : i = k := by omega
        subst this; omega
    · have ht' := Bool.eq_false_iff.2 ht
      rw [hv_no h k ht']
      have hle : val (h k) ≤ val (h (hv h k)) := by
        have h2 : (double.order (h k) (h (hv h k)) == some .gt) = false := ht'
        rw [ho] at h2
        have h3 : ¬ val (h (hv h k)) < val (h k) := fun hlt => by
          rw [cmp_gt.2 hlt] at h2
          simp at h2
        omega
      rcases Nat.lt_or_ge i k with h | h
      · exact ih i h
      · have : i = k := by omega
        subst this; exact hle

/-- what the loops of the law have found -/
structure Found (n k : Nat) (f h : Nat → Nat) : Prop where
  lt : k < n
  w : ∀ i, i < n → R (h i) (val (h i)) ∧ 0 ≤ val (h i)
  x : ∀ i, i < n → R (f i) (val (f i)) ∧ (val (f i)).natAbs ≤ far
  pos : 0 < val (h k)
  one : ∀ i, i < n → 0 < val (h i) → val (f i) = val (f k)

theorem Found.heavy {n k : Nat} {f h : Nat → Nat} (H : Found n k f h) : hv h n < n ∧ val (f (hv h n)) = val (f k) := by
  have hl := hv_lt h n (by have := H.lt; omega) n (Nat.le_refl _)
  have hm := hv_max h n (by have := H.lt; omega) (fun i hi => (H.w i hi).1) n (Nat.le_refl _) k H.lt
  have := H.pos
  exact ⟨hl, H.one _ hl (by omega)⟩

def SJ (k : Nat) (j a p _v : Nat) : Prop := Weight a ∧ R p 0 ∧ (k < j → Pos a)
theorem sj0 (k : Nat) : SJ k 0 0 0 0 := ⟨Or.inl ⟨0, Int.le_refl _, R_nought⟩, R_nought, fun h => absurd h (Nat.not_lt_zero _)⟩

theorem sjs {n k : Nat} {f g h : Nat → Nat} (H : Found n k f h) (j a p v a' p' v' : Nat) (hj : j < n) (hJ : SJ k j a p v) (hs : Step (f (hv h n)) (f j) (g j) (h j) a p v a' p' v') : SJ k (j + 1) a' p' v' := by
  obtain ⟨hw, hp, hpos⟩ := hJ
  obtain ⟨d, m, u, s1, s2, s3, s4, _, _⟩ := hs
  obtain ⟨hl, hx⟩ := H.heavy
  obtain ⟨r1, e1, w1, p1⟩ := add_weight hw (H.w j hj).1 (H.w j hj).2
  have ea : a' = r1 := s1.is e1
  have hb : (val (f j) - val (f (hv h n))).natAbs < 2 ^ 2096 := by
    refine Nat.lt_of_le_of_lt ?_ far_lt
    have h1 := (H.x j hj).2
    have h2 := (H.x _ hl).2
    omega
  obtain ⟨r2, e2, w2⟩ := R_sub (H.x j hj).1 (H.x _ hl).1 hb
  have ed : d = r2 := s2.is e2
  have hm : R m 0 := by
    rcases Int.lt_or_le 0 (val (h j)) with hq | hq
    · have hz : val (f j) - val (f (hv h n)) = 0 := by rw [hx, H.one j hj hq]; omega
      rw [hz, rnI_zero] at w2
      obtain ⟨r3, e3, w3⟩ := mul_zero_right (H.w j hj).1 w2
      rw [← ed] at e3
      rw [s3.is e3]
      exact w3
    · have hz : val (h j) = 0 := by have := (H.w j hj).2; omega
      have hh := (H.w j hj).1
      rw [hz] at hh
      obtain ⟨r3, e3, w3⟩ := mul_zero_left hh w2
      rw [← ed] at e3
      rw [s3.is e3]
      exact w3
  have hp' : R p' 0 := by
    obtain ⟨r4, e4, w4⟩ := R_add hp hm (nought_lt 2096)
    rw [Int.add_zero, rnI_zero] at w4
    rw [s4.is e4]
    exact w4
  subst ea
  refine ⟨w1, hp', fun hkj => p1 ?_⟩
  rcases Nat.lt_or_ge k j with hkj' | hkj'
  · exact Or.inl (hpos hkj')
  · have : k = j := by omega
    subst this
    exact Or.inr H.pos

theorem shared_answer {n k : Nat} {f g h : Nat → Nat} (H : Found n k f h) {a p v : Nat} {e : Ending} (hJ : SJ k n a p v) (hA : Answer (f (hv h n)) (g (hv h n)) a p v e) {x y z : Nat} (he : e = .returned (.tuple #[.float .f64 x, .float .f64 y, .float .f64 z])) :
    (FloatKind.f64.format.order x (f k) == some .eq) = true ∧ (FloatKind.f64.format.order z 0 == some .gt) = true := by
  obtain ⟨hw, hp, hpos⟩ := hJ
  obtain ⟨hl, hx⟩ := H.heavy
  have hpa := hpos H.lt
  have hgt : FloatKind.f64.format.order a 0 = some .gt := pos_gt hpa
  rcases hA with ⟨h0, _⟩ | ⟨_, q, x', y', s1, s2, s3, rfl⟩
  · rw [hgt] at h0; simp at h0
  · cases he
    obtain ⟨r1, e1, w1⟩ := quo_zero hp hpa
    have eq1 : q = r1 := s1.is e1
    subst eq1
    have hb : (val (f (hv h n)) + 0).natAbs < 2 ^ 2096 := by
      refine Nat.lt_of_le_of_lt ?_ far_lt
      have h2 := (H.x _ hl).2
      omega
    obtain ⟨r2, e2, w2⟩ := R_add (H.x _ hl).1 w1 hb
    rw [Int.add_zero, rnI_of_R (H.x _ hl).1, hx] at w2
    have ex : x = r2 := s2.is e2
    subst ex
    refine ⟨?_, by rw [hgt]; rfl⟩
    have ho : FloatKind.f64.format.order x (f k) = some (compare (val (f k)) (val (f k))) := R_order w2 (H.x k H.lt).1
    rw [ho, cmp_eq.2 rfl]
    rfl
end Go.Proofs.Qxb6605538a.WF
