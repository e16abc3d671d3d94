/-
  FLOATS IN WHOLE NUMBERS: of a finite float64 x the exact value is v / 2^1074, v a whole number: 'R x v'. What the operations give, so said. No Go in sight.
-/
import Ieee.Arith
namespace Go.Proofs.Qxb6605538a.Flt
open Ieee

theorem least : double.leastPlace = -1074 := by decide
theorem binade_eq : double.binade = 2 ^ 52 := rfl
theorem sign_eq : double.signWeight = 2 ^ 63 := rfl
theorem inf_eq : double.infRung = 2047 * 2 ^ 52 := rfl

/-! ### rungs -/
/-- the magnitude of a rung, in units of 2^-1074 -/
def absv (r : Nat) : Nat := if r < 2 ^ 52 then r else (2 ^ 52 + r % 2 ^ 52) * 2 ^ (r / 2 ^ 52 - 1)

/-- sign times magnitude -/
def sg (neg : Bool) (n : Nat) : Int := if neg then -(n : Int) else n

/-- x is finite, its value v / 2^1074 -/
def R (x : Nat) (v : Int) : Prop := ∃ s m i, double.read x = .number s m i ∧ -1074 ≤ i ∧ v = sg s (m * 2 ^ (i + 1074).toNat)

theorem R_word (neg : Bool) (r : Nat) (h : r < double.infRung) : R (double.word neg r) (sg neg (absv r)) := by
  have hs : r < 2 ^ 63 := by rw [inf_eq] at h; omega
  have e1 : double.word neg r % double.signWeight = r := by
    rw [sign_eq, Format.word, sign_eq]
    cases neg <;> simp <;> omega
  have e2 : (double.word neg r / double.signWeight % 2 == 1) = neg := by
    rw [sign_eq, Format.word, sign_eq]
    cases neg
    · simp; omega
    · simp; omega
  unfold Format.read at *
  unfold R Format.read
  simp only [e1, e2]
  rw [binade_eq, least]
  by_cases h1 : r < 2 ^ 52
  · rw [if_pos h1]
    exact ⟨neg, r, -1074, rfl, Int.le_refl _, by simp [absv, h1]⟩
  · rw [if_neg h1, if_pos h]
    refine ⟨neg, 2 ^ 52 + r % 2 ^ 52, -1074 + ((r / 2 ^ 52 - 1 : Nat) : Int), rfl, by omega, ?_⟩
    rw [absv, if_neg h1]
    congr 3
    omega

theorem log2_shift (m k : Nat) (h : m ≠ 0) : (m * 2 ^ k).log2 = m.log2 + k := by
  have h2 : m * 2 ^ k ≠ 0 := Nat.mul_ne_zero h (by exact Nat.ne_of_gt (Nat.two_pow_pos k))
  have a : 2 ^ m.log2 ≤ m := Nat.log2_self_le h
  have b : m < 2 ^ (m.log2 + 1) := Nat.lt_log2_self
  apply Nat.le_antisymm
  · have : (m * 2 ^ k).log2 < m.log2 + k + 1 := by
      rw [Nat.log2_lt h2, show m.log2 + k + 1 = (m.log2 + 1) + k from by omega, Nat.pow_add]
      exact Nat.mul_lt_mul_of_pos_right b (Nat.two_pow_pos k)
    omega
  · rw [Nat.le_log2 h2, Nat.pow_add]
    exact Nat.mul_le_mul_right _ a

/-- what 'cut' gives where not all is dropped -/
def kept (n d : Nat) : Nat := n / 2 ^ d + (2 ^ d < 2 * (n % 2 ^ d) || (2 ^ d == 2 * (n % 2 ^ d) && n / 2 ^ d % 2 == 1)).toNat
theorem cut_eq (neg : Bool) (n d : Nat) (h : d ≤ n.log2 + 2) : Toward.even.cut neg n d = kept n d := by
  unfold Toward.cut kept
  rw [Nat.min_eq_left h, Nat.one_shiftLeft]
theorem kept_bounds (n d : Nat) : n / 2 ^ d ≤ kept n d ∧ kept n d ≤ n / 2 ^ d + 1 := by
  unfold kept
  generalize (decide (2 ^ d < 2 * (n % 2 ^ d)) || (2 ^ d == 2 * (n % 2 ^ d) && n / 2 ^ d % 2 == 1)) = b
  cases b <;> simp
theorem kept_exact (n d : Nat) (h : n % 2 ^ d = 0) : kept n d = n / 2 ^ d := by
  unfold kept
  have : 0 < 2 ^ d := Nat.two_pow_pos d
  rw [h]
  have e : (2 ^ d == 2 * 0) = false := beq_eq_false_iff_ne.2 (by omega)
  rw [e]
  simp
theorem kept_shift (m d k : Nat) : kept (m * 2 ^ k) (d + k) = kept m d := by
  unfold kept
  have hk : 0 < 2 ^ k := Nat.two_pow_pos k
  have e1 : m * 2 ^ k / 2 ^ (d + k) = m / 2 ^ d := by
    rw [Nat.pow_add, Nat.mul_div_mul_right _ _ hk]
  have e2 : m * 2 ^ k % 2 ^ (d + k) = m % 2 ^ d * 2 ^ k := by
    rw [Nat.pow_add, Nat.mul_mod_mul_right]
  rw [e1, e2, Nat.pow_add]
  generalize m % 2 ^ d = r
  generalize 2 ^ d = D
  have c1 : (D * 2 ^ k < 2 * (r * 2 ^ k)) = (D < 2 * r) := by
    rw [show 2 * (r * 2 ^ k) = 2 * r * 2 ^ k from by rw [Nat.mul_assoc]]
    exact propext (Nat.mul_lt_mul_right hk)
  have c2 : (D * 2 ^ k == 2 * (r * 2 ^ k)) = (D == 2 * r) := by
    rw [show 2 * (r * 2 ^ k) = 2 * r * 2 ^ k from by rw [Nat.mul_assoc], Bool.eq_iff_iff, beq_iff_eq, beq_iff_eq]
    exact Nat.mul_left_inj (Nat.ne_of_gt hk)
  simp only [c1, c2]

/-- the rung nearest to Z units -/
def rn (Z : Nat) : Nat := if Z = 0 then 0 else (Z.log2 - 52) * 2 ^ 52 + kept Z (Z.log2 - 52)

theorem nearest_eq (neg : Bool) (mag : Nat) (place : Int) (hp : -1074 ≤ place) :
    double.nearest neg mag place = double.word neg (min (rn (mag * 2 ^ (place + 1074).toNat)) double.infRung) := by
  unfold Format.nearest
  by_cases h0 : mag = 0
  · rw [if_pos h0, h0]
    simp [rn, inf_eq]
  · rw [if_neg h0]
    obtain ⟨K, hK⟩ : ∃ K : Nat, place = -1074 + (K : Int) := ⟨(place + 1074).toNat, by omega⟩
    subst hK
    have hZ : mag * 2 ^ (-1074 + (K : Int) + 1074).toNat = mag * 2 ^ K := by congr 2; omega
    rw [hZ]
    have hne : mag * 2 ^ K ≠ 0 := Nat.mul_ne_zero h0 (Nat.ne_of_gt (Nat.two_pow_pos K))
    rw [rn, if_neg hne, log2_shift mag K h0, least, binade_eq]
    have hf : (double.fractionBits : Int) = 52 := rfl
    rw [hf]
    have e1 : (max (-1074 + (K : Int) + (mag.log2 : Int) - 52) (-1074) - -1074).toNat = mag.log2 + K - 52 := by omega
    dsimp only
    rw [e1]
    congr 3
    by_cases hl : mag.log2 + K - 52 ≤ K
    · have e2 : (-1074 + (K : Int) - max (-1074 + (K : Int) + (mag.log2 : Int) - 52) (-1074)).toNat = K - (mag.log2 + K - 52) := by omega
      have e3 : (max (-1074 + (K : Int) + (mag.log2 : Int) - 52) (-1074) - (-1074 + (K : Int))).toNat = 0 := by omega
      rw [e2, e3, cut_eq _ _ _ (by omega), Nat.shiftLeft_eq]
      generalize hL : mag.log2 + K - 52 = l at *
      rw [kept_exact _ _ (by simp [Nat.mod_one]), Nat.pow_zero, Nat.div_one]
      have e4 : mag * 2 ^ K = mag * 2 ^ (K - l) * 2 ^ l := by rw [Nat.mul_assoc, ← Nat.pow_add]; congr 2; omega
      rw [e4, kept_exact _ _ (Nat.mul_mod_left _ _), Nat.mul_div_cancel _ (Nat.two_pow_pos l)]
    · have e2 : (-1074 + (K : Int) - max (-1074 + (K : Int) + (mag.log2 : Int) - 52) (-1074)).toNat = 0 := by omega
      have e3 : (max (-1074 + (K : Int) + (mag.log2 : Int) - 52) (-1074) - (-1074 + (K : Int))).toNat = mag.log2 - 52 := by omega
      rw [e2, e3, Nat.shiftLeft_zero, cut_eq _ _ _ (by omega), show mag.log2 + K - 52 = (mag.log2 - 52) + K from by omega, kept_shift]

/-- the value of the nearest rung -/
theorem rn_val (Z : Nat) (h : Z ≠ 0) : absv (rn Z) = kept Z (Z.log2 - 52) * 2 ^ (Z.log2 - 52) := by
  rw [rn, if_neg h]
  have hb := kept_bounds Z (Z.log2 - 52)
  by_cases hl : Z.log2 ≤ 52
  · have e : Z.log2 - 52 = 0 := by omega
    rw [e] at hb ⊢
    have hZ : Z < 2 ^ 53 := (Nat.log2_lt h).1 (by omega)
    rw [kept_exact Z 0 (by simp [Nat.mod_one])]
    simp only [Nat.pow_zero, Nat.div_one, Nat.zero_mul, Nat.zero_add, Nat.mul_one]
    unfold absv
    split
    · rfl
    · have e1 : Z / 2 ^ 52 = 1 := by omega
      have e2 : Z % 2 ^ 52 = Z - 2 ^ 52 := by omega
      rw [e1, e2, show 1 - 1 = 0 from rfl, Nat.pow_zero, Nat.mul_one]
      omega
  · generalize hL : Z.log2 - 52 = l at *
    have hl1 : 1 ≤ l := by omega
    have hlog : Z.log2 = l + 52 := by omega
    have lo : 2 ^ (l + 52) ≤ Z := by rw [← hlog]; exact Nat.log2_self_le h
    have hi : Z < 2 ^ (l + 53) := by rw [show l + 53 = Z.log2 + 1 from by omega]; exact Nat.lt_log2_self
    have q1 : 2 ^ 52 ≤ Z / 2 ^ l := by
      rw [Nat.le_div_iff_mul_le (Nat.two_pow_pos l), ← Nat.pow_add, Nat.add_comm]; exact lo
    have q2 : Z / 2 ^ l < 2 ^ 53 := by
      rw [Nat.div_lt_iff_lt_mul (Nat.two_pow_pos l), ← Nat.pow_add, Nat.add_comm]; exact hi
    generalize kept Z l = k at *
    unfold absv
    rw [if_neg (by omega)]
    by_cases hk : k < 2 ^ 53
    · have e1 : (l * 2 ^ 52 + k) / 2 ^ 52 = l + 1 := by omega
      have e2 : (l * 2 ^ 52 + k) % 2 ^ 52 = k - 2 ^ 52 := by omega
      rw [e1, e2, Nat.add_sub_cancel, show 2 ^ 52 + (k - 2 ^ 52) = k from by omega]
    · have hk' : k = 2 ^ 53 := by omega
      have e1 : (l * 2 ^ 52 + k) / 2 ^ 52 = l + 2 := by omega
      have e2 : (l * 2 ^ 52 + k) % 2 ^ 52 = 0 := by omega
      rw [e1, e2, hk', show l + 2 - 1 = l + 1 from by omega, Nat.pow_succ 2 l]
      omega

theorem rn_err (Z : Nat) : absv (rn Z) ≤ Z + 2 ^ (Z.log2 - 52) ∧ Z ≤ absv (rn Z) + 2 ^ (Z.log2 - 52) := by
  by_cases h : Z = 0
  · subst h; simp [rn, absv]
  · rw [rn_val Z h]
    have hb := kept_bounds Z (Z.log2 - 52)
    generalize Z.log2 - 52 = l at *
    have hp : 0 < 2 ^ l := Nat.two_pow_pos l
    have hd := Nat.div_add_mod Z (2 ^ l)
    have hm := Nat.mod_lt Z hp
    have b1 : Z / 2 ^ l * 2 ^ l ≤ kept Z l * 2 ^ l := Nat.mul_le_mul_right _ hb.1
    have b2 : kept Z l * 2 ^ l ≤ (Z / 2 ^ l + 1) * 2 ^ l := Nat.mul_le_mul_right _ hb.2
    rw [Nat.mul_comm] at hd
    rw [Nat.add_mul, Nat.one_mul] at b2
    omega

theorem rn_exact (N q : Nat) (hN : N < 2 ^ 53) : absv (rn (N * 2 ^ q)) = N * 2 ^ q := by
  by_cases h : N = 0
  · subst h; simp [rn, absv]
  · have hne : N * 2 ^ q ≠ 0 := Nat.mul_ne_zero h (Nat.ne_of_gt (Nat.two_pow_pos q))
    rw [rn_val _ hne, log2_shift N q h]
    have hl : N.log2 ≤ 52 := by have := (Nat.log2_lt (k := 53) h).2 hN; omega
    generalize hL : N.log2 + q - 52 = l
    have e : N * 2 ^ q = N * 2 ^ (q - l) * 2 ^ l := by rw [Nat.mul_assoc, ← Nat.pow_add]; congr 2; omega
    rw [e, kept_exact _ _ (Nat.mul_mod_left _ _), Nat.mul_div_cancel _ (Nat.two_pow_pos l)]

theorem rn_small (Z : Nat) (h : Z < 2 ^ 2096) : rn Z < double.infRung := by
  rw [inf_eq]
  by_cases h0 : Z = 0
  · subst h0; simp [rn]
  · rw [rn, if_neg h0]
    have hl : Z.log2 < 2096 := (Nat.log2_lt h0).2 h
    have hb := (kept_bounds Z (Z.log2 - 52)).2
    have hq : Z / 2 ^ (Z.log2 - 52) < 2 ^ 53 := by
      rw [Nat.div_lt_iff_lt_mul (Nat.two_pow_pos _), ← Nat.pow_add]
      refine Nat.lt_of_lt_of_le Nat.lt_log2_self (Nat.pow_le_pow_right (by omega) (by omega))
    omega

theorem rn_pos (Z : Nat) (h : Z ≠ 0) : 0 < absv (rn Z) := by
  rw [rn_val Z h]
  have hb := (kept_bounds Z (Z.log2 - 52)).1
  have hq : 1 ≤ Z / 2 ^ (Z.log2 - 52) := by
    rw [Nat.le_div_iff_mul_le (Nat.two_pow_pos _), Nat.one_mul]
    refine Nat.le_trans (Nat.pow_le_pow_right (by omega) (by omega)) (Nat.log2_self_le h)
  exact Nat.mul_pos (by omega) (Nat.two_pow_pos _)

end Go.Proofs.Qxb6605538a.Flt
