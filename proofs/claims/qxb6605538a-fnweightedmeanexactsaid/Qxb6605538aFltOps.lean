/-
  FLOATS IN WHOLE NUMBERS: the operations of finite floats.
-/
import Derived.Test.Qxb6605538aFlt
namespace Go.Proofs.Qxb6605538a.Flt
open Ieee

/-- z units, rounded to a float -/
def rnI (z : Int) : Int := sg (decide (z < 0)) (absv (rn z.natAbs))

theorem sg_mul (s : Bool) (a b : Nat) : sg s (a * b) = sg s a * (b : Int) := by
  unfold sg; cases s <;> simp [Int.neg_mul]
theorem pow_le (a b : Nat) (h : a ≤ b) : (2 : Nat) ^ a ≤ 2 ^ b := Nat.pow_le_pow_right (by omega) h
theorem natAbs_sg (s : Bool) (a : Nat) : (sg s a).natAbs = a := by unfold sg; cases s <;> simp
theorem sg_neg (s : Bool) (a : Nat) (h : a ≠ 0) : decide (sg s a < 0) = s := by unfold sg; cases s <;> simp <;> omega
theorem sg_natAbs (z : Int) : sg (decide (z < 0)) z.natAbs = z := by
  unfold sg; by_cases h : z < 0 <;> simp [h] <;> omega
theorem signed_eq (s : Bool) (m k : Nat) : signed s m k = sg s m * (2 ^ k : Nat) := by
  unfold signed
  rw [Nat.shiftLeft_eq, ← sg_mul]
  unfold sg
  cases s <;> simp

theorem read_place {x : Nat} {s : Bool} {m : Nat} {i : Int} (h : double.read x = .number s m i) : -1074 ≤ i := by
  unfold Format.read at h
  rw [least] at h
  dsimp only at h
  split at h
  · cases h; exact Int.le_refl _
  · split at h
    · cases h; omega
    · split at h <;> cases h
theorem R_of {x : Nat} {s : Bool} {m : Nat} {i : Int} (h : double.read x = .number s m i) : R x (sg s (m * 2 ^ (i + 1074).toNat)) := ⟨s, m, i, h, read_place h, rfl⟩
theorem R_fun {x : Nat} {v u : Int} (h : R x v) (k : R x u) : v = u := by
  obtain ⟨s, m, i, h1, _, rfl⟩ := h
  obtain ⟨t, n, j, k1, _, rfl⟩ := k
  rw [h1] at k1
  cases k1
  rfl

/-- the two numbers over a common place -/
theorem common {s t : Bool} {m n : Nat} {i j : Int} (hi : -1074 ≤ i) (hj : -1074 ≤ j) :
    sg s (m * 2 ^ (i + 1074).toNat) = signed s m (i - min i j).toNat * (2 ^ (min i j + 1074).toNat : Nat) ∧
    sg t (n * 2 ^ (j + 1074).toNat) = signed t n (j - min i j).toNat * (2 ^ (min i j + 1074).toNat : Nat) := by
  rw [signed_eq, signed_eq, sg_mul, sg_mul, Int.mul_assoc, Int.mul_assoc]
  constructor
  · congr 1
    rw [← Int.natCast_mul, ← Nat.pow_add]
    congr 2
    omega
  · congr 1
    rw [← Int.natCast_mul, ← Nat.pow_add]
    congr 2
    omega

theorem R_write {neg : Bool} {mag : Nat} {place : Int} {z : Int} (hp : -1074 ≤ place) (hz : z = sg neg (mag * 2 ^ (place + 1074).toNat)) (hb : z.natAbs < 2 ^ 2096) :
    R (double.write (.number neg mag place)) (rnI z) := by
  have hn : z.natAbs = mag * 2 ^ (place + 1074).toNat := by rw [hz, natAbs_sg]
  rw [Format.write, nearest_eq _ _ _ hp, ← hn, Nat.min_eq_left (Nat.le_of_lt (rn_small _ hb))]
  have := R_word neg (rn z.natAbs) (rn_small _ hb)
  have e : sg neg (absv (rn z.natAbs)) = rnI z := by
    unfold rnI
    by_cases h0 : z.natAbs = 0
    · rw [h0]; simp [rn, absv, sg]
    · have hs : decide (z < 0) = neg := by rw [hz]; exact sg_neg _ _ (by rw [← hn]; exact h0)
      rw [hs]
  rw [← e]
  exact this

theorem R_sum {s t : Bool} {m n : Nat} {i j : Int} (hi : -1074 ≤ i) (hj : -1074 ≤ j) (hb : (sg s (m * 2 ^ (i + 1074).toNat) + sg t (n * 2 ^ (j + 1074).toNat)).natAbs < 2 ^ 2096) :
    ∃ d, Datum.sum (.number s m i) (.number t n j) = some d ∧ R (double.write d) (rnI (sg s (m * 2 ^ (i + 1074).toNat) + sg t (n * 2 ^ (j + 1074).toNat))) := by
  refine ⟨_, rfl, ?_⟩
  obtain ⟨e1, e2⟩ := common (s := s) (t := t) (m := m) (n := n) hi hj
  rw [e1, e2, ← Int.add_mul] at hb ⊢
  generalize signed s m (i - min i j).toNat + signed t n (j - min i j).toNat = T at hb ⊢
  refine R_write (by omega) ?_ hb
  rw [sg_mul]
  congr 1
  by_cases h0 : T = 0
  · subst h0; simp [sg]
  · rw [if_neg h0]; exact (sg_natAbs T).symm

theorem R_add {x y : Nat} {v u : Int} (hx : R x v) (hy : R y u) (hb : (v + u).natAbs < 2 ^ 2096) : ∃ r, double.add x y = some r ∧ R r (rnI (v + u)) := by
  obtain ⟨s, m, i, h1, hi, rfl⟩ := hx
  obtain ⟨t, n, j, k1, hj, rfl⟩ := hy
  obtain ⟨d, e, hr⟩ := R_sum hi hj hb
  exact ⟨_, by rw [Format.add, h1, k1, e]; rfl, hr⟩

theorem sg_not (t : Bool) (a : Nat) : sg (!t) a = - sg t a := by unfold sg; cases t <;> simp

theorem R_sub {x y : Nat} {v u : Int} (hx : R x v) (hy : R y u) (hb : (v - u).natAbs < 2 ^ 2096) : ∃ r, double.sub x y = some r ∧ R r (rnI (v - u)) := by
  obtain ⟨s, m, i, h1, hi, rfl⟩ := hx
  obtain ⟨t, n, j, k1, hj, rfl⟩ := hy
  have e0 : sg s (m * 2 ^ (i + 1074).toNat) - sg t (n * 2 ^ (j + 1074).toNat) = sg s (m * 2 ^ (i + 1074).toNat) + sg (!t) (n * 2 ^ (j + 1074).toNat) := by rw [sg_not]; omega
  rw [e0] at hb ⊢
  obtain ⟨d, e, hr⟩ := R_sum hi hj hb
  exact ⟨_, by rw [Format.sub, h1, k1, Datum.opposite, e]; rfl, hr⟩

theorem compare_mul {a b : Int} (c : Nat) (hc : 0 < c) : compare (a * (c : Int)) (b * (c : Int)) = compare a b := by
  have hc' : (0 : Int) < (c : Int) := by omega
  simp only [compare, compareOfLessAndEq]
  have e1 : (a * (c : Int) < b * (c : Int)) = (a < b) := propext (Int.mul_lt_mul_right hc')
  have e2 : (a * (c : Int) = b * (c : Int)) = (a = b) := propext ⟨fun h => Int.eq_of_mul_eq_mul_right (by omega) h, fun h => by rw [h]⟩
  simp only [e1, e2]

theorem R_order {x y : Nat} {v u : Int} (hx : R x v) (hy : R y u) : double.order x y = some (compare v u) := by
  obtain ⟨s, m, i, h1, hi, rfl⟩ := hx
  obtain ⟨t, n, j, k1, hj, rfl⟩ := hy
  rw [Format.order, h1, k1]
  obtain ⟨e1, e2⟩ := common (s := s) (t := t) (m := m) (n := n) hi hj
  rw [e1, e2, compare_mul _ (Nat.two_pow_pos _)]
  rfl

theorem cmp_lt {v u : Int} : compare v u = .lt ↔ v < u := by
  simp only [compare, compareOfLessAndEq]
  split
  · simp [*]
  · split <;> simp [*]
theorem cmp_eq {v u : Int} : compare v u = .eq ↔ v = u := by
  simp only [compare, compareOfLessAndEq]
  split
  · simp; omega
  · split <;> simp [*]
theorem cmp_gt {v u : Int} : compare v u = .gt ↔ u < v := by
  simp only [compare, compareOfLessAndEq]
  split
  · simp; omega
  · split
    · simp; omega
    · simp; omega

theorem rnI_zero : rnI 0 = 0 := by simp [rnI, rn, absv, sg]
/-- a float's value is its own rounding -/
theorem rnI_exact (z : Int) (N q : Nat) (hN : N < 2 ^ 53) (h : z.natAbs = N * 2 ^ q) : rnI z = z := by
  unfold rnI
  rw [h, rn_exact N q hN, ← h, sg_natAbs]
/-- the value of a float is a whole number below 2^53 times a power of two -/
theorem R_short {x : Nat} {v : Int} (h : R x v) : ∃ N q, N < 2 ^ 53 ∧ v.natAbs = N * 2 ^ q := by
  obtain ⟨s, m, i, h1, hi, rfl⟩ := h
  refine ⟨m, (i + 1074).toNat, ?_, natAbs_sg _ _⟩
  unfold Format.read at h1
  rw [binade_eq] at h1
  dsimp only at h1
  split at h1
  · cases h1; omega
  · split at h1
    · cases h1; omega
    · split at h1 <;> cases h1
theorem rnI_of_R {x : Nat} {v : Int} (h : R x v) : rnI v = v := by
  obtain ⟨N, q, hN, hv⟩ := R_short h
  exact rnI_exact v N q hN hv

/-! ### zeros -/
theorem R_zero_read {x : Nat} (h : R x 0) : ∃ s i, double.read x = .number s 0 i := by
  obtain ⟨s, m, i, h1, hi, h2⟩ := h
  have hm : m * 2 ^ (i + 1074).toNat = 0 := by rw [← natAbs_sg s (m * 2 ^ (i + 1074).toNat), ← h2]; rfl
  rcases Nat.mul_eq_zero.1 hm with h | h
  · subst h; exact ⟨s, i, h1⟩
  · exact absurd h (Nat.ne_of_gt (Nat.two_pow_pos _))
theorem R_write_zero (neg : Bool) (place : Int) : R (double.write (.number neg 0 place)) 0 := by
  have h := R_word neg 0 (by rw [inf_eq]; omega)
  have e : double.write (.number neg 0 place) = double.word neg 0 := rfl
  rw [e]
  have e2 : sg neg (absv 0) = 0 := by cases neg <;> rfl
  rw [e2] at h
  exact h
theorem R_nought : R 0 0 := R_write_zero false 0
theorem mul_zero_right {x y : Nat} {v : Int} (hx : R x v) (hy : R y 0) : ∃ r, double.mul x y = some r ∧ R r 0 := by
  obtain ⟨s, m, i, h1, _, _⟩ := hx
  obtain ⟨t, j, k1⟩ := R_zero_read hy
  refine ⟨_, by rw [Format.mul, h1, k1]; rfl, ?_⟩
  rw [Nat.mul_zero]
  exact R_write_zero _ _
theorem mul_zero_left {x y : Nat} {v : Int} (hx : R x 0) (hy : R y v) : ∃ r, double.mul x y = some r ∧ R r 0 := by
  obtain ⟨s, m, i, h1, _, _⟩ := hy
  obtain ⟨t, j, k1⟩ := R_zero_read hx
  refine ⟨_, by rw [Format.mul, h1, k1]; rfl, ?_⟩
  rw [Nat.zero_mul]
  exact R_write_zero _ _

/-! ### weights: whole numbers from 0 on, or the positive infinity -/
def Weight (x : Nat) : Prop := (∃ v, 0 ≤ v ∧ R x v) ∨ double.read x = .infinity false
def Pos (x : Nat) : Prop := (∃ v, 0 < v ∧ R x v) ∨ double.read x = .infinity false

theorem read_inf (neg : Bool) : double.read (double.word neg double.infRung) = .infinity neg := by cases neg <;> rfl

theorem write_weight {neg : Bool} {mag : Nat} {place : Int} {z : Int} (hp : -1074 ≤ place) (hz : z = sg neg (mag * 2 ^ (place + 1074).toNat)) (h0 : 0 ≤ z) :
    Weight (double.write (.number neg mag place)) ∧ (0 < z → Pos (double.write (.number neg mag place))) := by
  by_cases hm : mag = 0
  · subst hm
    refine ⟨Or.inl ⟨0, Int.le_refl _, R_write_zero _ _⟩, fun h => ?_⟩
    rw [hz] at h
    unfold sg at h
    cases neg <;> simp at h
  · have hn : z.natAbs = mag * 2 ^ (place + 1074).toNat := by rw [hz, natAbs_sg]
    have hne : z.natAbs ≠ 0 := by rw [hn]; exact Nat.mul_ne_zero hm (Nat.ne_of_gt (Nat.two_pow_pos _))
    have hneg : neg = false := by
      have := sg_neg neg (mag * 2 ^ (place + 1074).toNat) (by rw [← hn]; exact hne)
      rw [← hz] at this
      rw [← this]
      simp
      exact h0
    subst hneg
    rw [Format.write, nearest_eq _ _ _ hp, ← hn]
    by_cases hi : rn z.natAbs < double.infRung
    · rw [Nat.min_eq_left (Nat.le_of_lt hi)]
      have h := R_word false _ hi
      have hpv : (0 : Int) < sg false (absv (rn z.natAbs)) := by
        have := rn_pos _ hne
        unfold sg
        simp
        exact this
      exact ⟨Or.inl ⟨_, Int.le_of_lt hpv, h⟩, fun _ => Or.inl ⟨_, hpv, h⟩⟩
    · rw [Nat.min_eq_right (by omega)]
      exact ⟨Or.inr (read_inf false), fun _ => Or.inr (read_inf false)⟩

theorem add_weight {x y : Nat} {u : Int} (hx : Weight x) (hy : R y u) (hu : 0 ≤ u) : ∃ r, double.add x y = some r ∧ Weight r ∧ ((Pos x ∨ 0 < u) → Pos r) := by
  rcases hx with ⟨v, hv, hx⟩ | hx
  · have hx0 := hx
    obtain ⟨s, m, i, h1, hi, e1⟩ := hx
    obtain ⟨t, n, j, k1, hj, e2⟩ := hy
    obtain ⟨c1, c2⟩ := common (s := s) (t := t) (m := m) (n := n) hi hj
    have hs : v + u = (signed s m (i - min i j).toNat + signed t n (j - min i j).toNat) * (2 ^ (min i j + 1074).toNat : Nat) := by rw [e1, e2, c1, c2, ← Int.add_mul]
    have hw := write_weight (neg := if signed s m (i - min i j).toNat + signed t n (j - min i j).toNat = 0 then s && t else decide (signed s m (i - min i j).toNat + signed t n (j - min i j).toNat < 0)) (mag := (signed s m (i - min i j).toNat + signed t n (j - min i j).toNat).natAbs) (place := min i j) (z := v + u) (by omega) (by
      rw [hs, sg_mul]
      congr 1
      by_cases h0 : signed s m (i - min i j).toNat + signed t n (j - min i j).toNat = 0
      · rw [h0]; simp [sg]
      · rw [if_neg h0]; exact (sg_natAbs _).symm) (by omega)
    refine ⟨_, by rw [Format.add, h1, k1]; rfl, hw.1, fun h => hw.2 ?_⟩
    rcases h with h | h
    · rcases h with ⟨v', hv', h⟩ | h
      · have := R_fun h hx0; omega
      · rw [h1] at h; cases h
    · omega
  · obtain ⟨t, n, j, k1, hj, e2⟩ := hy
    refine ⟨_, by rw [Format.add, hx, k1]; rfl, Or.inr (read_inf false), fun _ => Or.inr (read_inf false)⟩

theorem quo_zero {x y : Nat} (hx : R x 0) (hy : Pos y) : ∃ r, double.div x y = some r ∧ R r 0 := by
  obtain ⟨t, j, k1⟩ := R_zero_read hx
  rcases hy with ⟨v, hv, hy⟩ | hy
  · obtain ⟨s, m, i, h1, hi, e1⟩ := hy
    have hm : m ≠ 0 := by
      intro h
      subst h
      rw [e1] at hv
      unfold sg at hv
      cases s <;> simp at hv
    refine ⟨_, by rw [Format.div, h1, k1, Datum.quotient, if_neg hm]; rfl, ?_⟩
    have e : 2 * (0 <<< (double.fractionBits + 2 + m.log2 - Nat.log2 0) / m) + (0 <<< (double.fractionBits + 2 + m.log2 - Nat.log2 0) % m != 0).toNat = 0 := by
      simp
    rw [e]
    exact R_write_zero _ _
  · exact ⟨_, by rw [Format.div, hy, k1]; rfl, R_write_zero _ _⟩

theorem pos_gt {x : Nat} (h : Pos x) : double.order x 0 = some .gt := by
  rcases h with ⟨v, hv, h⟩ | h
  · rw [R_order h R_nought, cmp_gt.2 hv]
  · rw [Format.order, h]; rfl

/-- what two comparisons tell -/
theorem between {x a b : Nat} {α β : Int} (ha : R a α) (hb : R b β) (h1 : (double.order x a == some .gt || double.order x a == some .eq) = true) (h2 : (double.order x b == some .lt || double.order x b == some .eq) = true) : ∃ v, R x v ∧ α ≤ v ∧ v ≤ β := by
  cases hx : double.read x with
  | number s m i =>
    have hR := R_of hx
    refine ⟨_, hR, ?_, ?_⟩
    · rw [R_order hR ha] at h1
      simp only [Bool.or_eq_true, beq_iff_eq, Option.some.injEq, cmp_gt, cmp_eq] at h1
      omega
    · rw [R_order hR hb] at h2
      simp only [Bool.or_eq_true, beq_iff_eq, Option.some.injEq, cmp_lt, cmp_eq] at h2
      omega
  | infinity s =>
    obtain ⟨_, _, _, ha, _⟩ := ha
    obtain ⟨_, _, _, hb, _⟩ := hb
    rw [Format.order, hx, ha] at h1
    rw [Format.order, hx, hb] at h2
    cases s <;> simp [Datum.order] at h1 h2
  | nan s f =>
    obtain ⟨_, _, _, ha, _⟩ := ha
    rw [Format.order, hx, ha] at h1
    simp [Datum.order] at h1

end Go.Proofs.Qxb6605538a.Flt
