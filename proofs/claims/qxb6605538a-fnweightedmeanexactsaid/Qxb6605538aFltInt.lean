/-
  FLOATS OF WHOLE NUMBERS: 'V x k': the float x is the whole number k. Sums, products, quotients of them.
-/
import Derived.Test.Qxb6605538aFltOps
namespace Go.Proofs.Qxb6605538a.Flt
open Ieee

/-- the places behind the point, in units -/
def ex : Nat := 1074
theorem ex_eq : ex = 1074 := rfl
/-- x is the whole number k -/
def V (x : Nat) (k : Int) : Prop := R x (k * ((2 ^ ex : Nat) : Int))

theorem abs_mul (k : Int) (n : Nat) : (k * (n : Int)).natAbs = k.natAbs * n := by rw [Int.natAbs_mul, Int.natAbs_natCast]
theorem neg_mul (k : Int) (n : Nat) (h : 0 < n) : decide (k * (n : Int) < 0) = decide (k < 0) := by
  have hn : (0 : Int) < n := by omega
  apply decide_eq_decide.2
  constructor
  · intro h1
    rcases Int.lt_or_le k 0 with h2 | h2
    · exact h2
    · have := Int.mul_nonneg h2 (Int.le_of_lt hn); omega
  · intro h1; exact Int.mul_neg_of_neg_of_pos h1 hn

theorem norm_of {x : Nat} {z : Int} (h : R x z) (hz : 2 ^ 53 ≤ z.natAbs) : ∃ m I : Nat, double.read x = .number (decide (z < 0)) m ((I : Int) - 1074) ∧ 2 ^ 52 ≤ m ∧ m < 2 ^ 53 ∧ z.natAbs = m * 2 ^ I := by
  obtain ⟨s, m, i, h1, hi, rfl⟩ := h
  rw [natAbs_sg] at hz ⊢
  have hm0 : m * 2 ^ (i + 1074).toNat ≠ 0 := by omega
  rw [sg_neg _ _ hm0]
  refine ⟨m, (i + 1074).toNat, by rw [h1]; congr 1; omega, ?_, ?_, rfl⟩
  · unfold Format.read at h1
    rw [least, binade_eq] at h1
    dsimp only at h1
    split at h1
    · rename_i hlt
      cases h1
      exfalso
      have e : ((-1074 : Int) + 1074).toNat = 0 := rfl
      rw [e, Nat.pow_zero, Nat.mul_one] at hz
      omega
    · split at h1
      · cases h1; omega
      · split at h1 <;> cases h1
  · unfold Format.read at h1
    rw [least, binade_eq] at h1
    dsimp only at h1
    split at h1
    · rename_i hlt
      cases h1
      omega
    · split at h1
      · cases h1; omega
      · split at h1 <;> cases h1
theorem log52 {m : Nat} (h1 : 2 ^ 52 ≤ m) (h2 : m < 2 ^ 53) : m.log2 = 52 := by
  have h0 : m ≠ 0 := by omega
  have a := (Nat.le_log2 h0).2 h1
  have b := (Nat.log2_lt h0).2 h2
  omega
theorem norm_unique {m n I J : Nat} (h1 : 2 ^ 52 ≤ m) (h2 : m < 2 ^ 53) (h3 : 2 ^ 52 ≤ n) (h4 : n < 2 ^ 53) (h : m * 2 ^ I = n * 2 ^ J) : m = n ∧ I = J := by
  have e : (m * 2 ^ I).log2 = (n * 2 ^ J).log2 := by rw [h]
  rw [log2_shift _ _ (by omega), log2_shift _ _ (by omega), log52 h1 h2, log52 h3 h4] at e
  have e' : I = J := by omega
  subst e'
  exact ⟨Nat.eq_of_mul_eq_mul_right (Nat.two_pow_pos I) h, rfl⟩
theorem same_read {x y : Nat} {z : Int} (hx : R x z) (hy : R y z) (hz : 2 ^ 53 ≤ z.natAbs) : double.read x = double.read y := by
  obtain ⟨m, I, e1, a1, a2, a3⟩ := norm_of hx hz
  obtain ⟨n, J, e2, b1, b2, b3⟩ := norm_of hy hz
  obtain ⟨rfl, rfl⟩ := norm_unique a1 a2 b1 b2 (a3.symm.trans b3)
  rw [e1, e2]

theorem big_V {k : Int} (hk : k ≠ 0) : 2 ^ 53 ≤ (k * ((2 ^ ex : Nat) : Int)).natAbs := by
  rw [abs_mul]
  have h1 : 1 ≤ k.natAbs := by omega
  have h2 : 2 ^ 53 ≤ 2 ^ ex := pow_le _ _ (by rw [ex_eq]; omega)
  calc 2 ^ 53 ≤ 2 ^ ex := h2
    _ = 1 * 2 ^ ex := (Nat.one_mul _).symm
    _ ≤ k.natAbs * 2 ^ ex := Nat.mul_le_mul_right _ h1

/-- where a whole number's places lie -/
theorem V_norm {x : Nat} {k : Int} (h : V x k) (hk : k ≠ 0) : ∃ m I : Nat, double.read x = .number (decide (k < 0)) m ((I : Int) - 1074) ∧ 2 ^ 52 ≤ m ∧ m < 2 ^ 53 ∧ k.natAbs * 2 ^ ex = m * 2 ^ I ∧ ex < 53 + I ∧ (∀ c, k.natAbs ≤ 2 ^ c → 52 + I ≤ c + ex) := by
  obtain ⟨m, I, e, a1, a2, a3⟩ := norm_of h (big_V hk)
  rw [abs_mul] at a3
  rw [neg_mul _ _ (Nat.two_pow_pos ex)] at e
  refine ⟨m, I, e, a1, a2, a3, ?_, fun c hc => ?_⟩
  · have h1 : 2 ^ ex < 2 ^ (53 + I) := by
      rw [Nat.pow_add]
      calc 2 ^ ex = 1 * 2 ^ ex := (Nat.one_mul _).symm
        _ ≤ k.natAbs * 2 ^ ex := Nat.mul_le_mul_right _ (by omega)
        _ = m * 2 ^ I := a3
        _ < 2 ^ 53 * 2 ^ I := Nat.mul_lt_mul_of_pos_right a2 (Nat.two_pow_pos I)
    exact (Nat.pow_lt_pow_iff_right (by omega)).1 h1
  · have h1 : 2 ^ (52 + I) ≤ 2 ^ (c + ex) := by
      rw [Nat.pow_add, Nat.pow_add]
      calc 2 ^ 52 * 2 ^ I ≤ m * 2 ^ I := Nat.mul_le_mul_right _ a1
        _ = k.natAbs * 2 ^ ex := a3.symm
        _ ≤ 2 ^ c * 2 ^ ex := Nat.mul_le_mul_right _ hc
    exact (Nat.pow_le_pow_iff_right (by omega)).1 h1

/-- what the division keeps -/
theorem quo_mag (D n : Nat) (hn : 0 < n) : (2 * (D / n) + (D % n != 0).toNat) * n ≤ 2 * D + n ∧ 2 * D ≤ (2 * (D / n) + (D % n != 0).toNat) * n + n ∧ (D % n = 0 → (2 * (D / n) + (D % n != 0).toNat) * n = 2 * D) := by
  have h1 := Nat.div_add_mod D n
  have h2 := Nat.mod_lt D hn
  have e1 : n * (D / n) = D / n * n := Nat.mul_comm _ _
  generalize D / n = q at *
  generalize D % n = r at *
  by_cases hr : r = 0
  · subst hr
    simp only [bne_self_eq_false, Bool.toNat_false, Nat.add_zero]
    rw [Nat.mul_assoc]
    omega
  · have e : (r != 0) = true := bne_iff_ne.2 hr
    rw [e]
    simp only [Bool.toNat_true, Nat.add_mul, Nat.one_mul, Nat.mul_assoc]
    omega

theorem R_div {x y : Nat} {k w : Int} (hx : V x k) (hy : V y w) (hk : k ≠ 0) (hkb : k.natAbs ≤ 2 ^ 53) (hw : 1 ≤ w) (hwb : w.natAbs ≤ 2 ^ 32) :
    ∃ r Z P : Nat, double.div x y = some r ∧ R r (sg (decide (k < 0)) (absv (rn Z))) ∧ w.natAbs * Z ≤ k.natAbs * 2 ^ ex + w.natAbs * 2 ^ P ∧ k.natAbs * 2 ^ ex ≤ w.natAbs * Z + w.natAbs * 2 ^ P ∧ w.natAbs * 2 ^ (P + 54) < k.natAbs * 2 ^ ex ∧ (∀ t, k.natAbs = t * w.natAbs → t ≤ 2 ^ 21 → Z = t * 2 ^ ex) := by
  obtain ⟨m, I, e1, a1, a2, a3, a4, a5⟩ := V_norm hx hk
  obtain ⟨n, J, e2, b1, b2, b3, b4, b5⟩ := V_norm hy (by omega)
  have a6 := a5 53 hkb
  have b6 := b5 32 hwb
  clear a5 b5
  have hwn : decide (w < 0) = false := decide_eq_false (by omega)
  rw [hwn] at e2
  have ee := ex_eq
  obtain ⟨P, hP⟩ : ∃ P, P + J = I + 1019 := ⟨I + 1019 - J, by omega⟩
  have hPle : P ≤ 1072 := by omega
  obtain ⟨q1, q2, q3⟩ := quo_mag (m * 2 ^ 54) n (by omega)
  obtain ⟨mag, hmag⟩ : ∃ mag, mag = 2 * (m * 2 ^ 54 / n) + (m * 2 ^ 54 % n != 0).toNat := ⟨_, rfl⟩
  rw [← hmag] at q1 q2 q3
  have hdiv : double.div x y = some (double.write (.number (decide (k < 0)) mag ((I : Int) - 1074 - ((J : Int) - 1074) - (54 : Nat) - 1))) := by
    rw [Format.div, e1, e2, Datum.quotient, if_neg (by omega)]
    have hf : double.fractionBits + 2 = 54 := rfl
    rw [hf, log52 a1 a2, log52 b1 b2]
    simp only [Nat.add_sub_cancel, Nat.shiftLeft_eq, Bool.xor_false]
    rw [← hmag]
    rfl
  have hm0 : mag ≠ 0 := by
    intro h0
    rw [h0] at q2
    omega
  have hmb : mag < 2 ^ 58 := by
    have h1 : mag * 2 ^ 52 ≤ mag * n := Nat.mul_le_mul_left _ b1
    omega
  have A1 : (w.natAbs * (mag * 2 ^ P)) * 2 ^ ex = (mag * n) * 2 ^ (P + J) := by
    rw [Nat.pow_add, Nat.mul_right_comm, b3]
    simp only [Nat.mul_assoc, Nat.mul_left_comm, Nat.mul_comm]
  have A2 : (k.natAbs * 2 ^ ex) * 2 ^ ex = (2 * (m * 2 ^ 54)) * 2 ^ (P + J) := by
    rw [a3, Nat.mul_assoc, ← Nat.pow_add, show I + ex = P + J + 55 from by omega, Nat.pow_add _ (P + J) 55, show (2 : Nat) ^ 55 = 2 * 2 ^ 54 from rfl]
    simp only [Nat.mul_left_comm, Nat.mul_comm]
  have A3 : (w.natAbs * 2 ^ P) * 2 ^ ex = n * 2 ^ (P + J) := by
    rw [Nat.mul_right_comm, b3, Nat.pow_add, Nat.mul_assoc, Nat.mul_comm (2 ^ J)]
  have A4 : (w.natAbs * 2 ^ (P + 54)) * 2 ^ ex = (n * 2 ^ 54) * 2 ^ (P + J) := by
    rw [Nat.pow_add _ P 54, ← Nat.mul_assoc, Nat.mul_right_comm, A3, Nat.mul_right_comm]
  have hpos : 0 < 2 ^ ex := Nat.two_pow_pos ex
  have hS : 0 < 2 ^ (P + J) := Nat.two_pow_pos _
  have G3 : w.natAbs * 2 ^ (P + 54) < k.natAbs * 2 ^ ex := by
    refine Nat.lt_of_mul_lt_mul_right (a := 2 ^ ex) ?_
    rw [A4, A2]
    exact Nat.mul_lt_mul_of_pos_right (by omega) hS
  refine ⟨_, mag * 2 ^ P, P, hdiv, ?_, ?_, ?_, G3, ?_⟩
  · have hpl : ((I : Int) - 1074 - ((J : Int) - 1074) - (54 : Nat) - 1 + 1074).toNat = P := by omega
    have hne : mag * 2 ^ P ≠ 0 := Nat.mul_ne_zero hm0 (Nat.ne_of_gt (Nat.two_pow_pos P))
    have hr := R_write (neg := decide (k < 0)) (mag := mag) (place := (I : Int) - 1074 - ((J : Int) - 1074) - (54 : Nat) - 1) (z := sg (decide (k < 0)) (mag * 2 ^ P)) (by omega) (by rw [hpl]) (by
      rw [natAbs_sg]
      calc mag * 2 ^ P < 2 ^ 58 * 2 ^ P := Nat.mul_lt_mul_of_pos_right hmb (Nat.two_pow_pos P)
        _ = 2 ^ (58 + P) := (Nat.pow_add _ _ _).symm
        _ ≤ 2 ^ 2096 := pow_le _ _ (by omega))
    have e : rnI (sg (decide (k < 0)) (mag * 2 ^ P)) = sg (decide (k < 0)) (absv (rn (mag * 2 ^ P))) := by
      unfold rnI
      rw [sg_neg _ _ hne, natAbs_sg]
    rw [e] at hr
    exact hr
  · refine Nat.le_of_mul_le_mul_right ?_ hpos
    rw [A1, Nat.add_mul, A2, A3, ← Nat.add_mul]
    exact Nat.mul_le_mul_right _ q1
  · refine Nat.le_of_mul_le_mul_right ?_ hpos
    rw [A2, Nat.add_mul, A1, A3, ← Nat.add_mul]
    exact Nat.mul_le_mul_right _ q2
  · intro t ht ht21
    have hw0 : 0 < w.natAbs := by omega
    have h1 : 2 ^ (P + 54) < 2 ^ (21 + ex) := by
      rw [ht, Nat.mul_comm t, Nat.mul_assoc] at G3
      have h2 := Nat.lt_of_mul_lt_mul_left G3
      calc 2 ^ (P + 54) < t * 2 ^ ex := h2
        _ ≤ 2 ^ 21 * 2 ^ ex := Nat.mul_le_mul_right _ ht21
        _ = 2 ^ (21 + ex) := (Nat.pow_add _ _ _).symm
    have h2 := (Nat.pow_lt_pow_iff_right (by omega : 1 < 2)).1 h1
    obtain ⟨c, hc⟩ : ∃ c, ex = c + (P + 1) := ⟨ex - (P + 1), by omega⟩
    have h3 : m * 2 ^ 54 = n * (t * 2 ^ c) := by
      have h4 : (n * (t * 2 ^ c)) * (2 * 2 ^ (P + J)) = (m * 2 ^ 54) * (2 * 2 ^ (P + J)) := by
        have h5 : (k.natAbs * 2 ^ ex) * 2 ^ ex = (t * (n * 2 ^ J)) * 2 ^ ex := by rw [ht, Nat.mul_assoc t, b3]
        rw [A2, hc, Nat.pow_add _ c (P + 1), Nat.pow_add _ P 1] at h5
        calc (n * (t * 2 ^ c)) * (2 * 2 ^ (P + J)) = (t * (n * 2 ^ J)) * (2 ^ c * (2 ^ P * 2 ^ 1)) := by
              rw [Nat.pow_add, Nat.pow_one]
              simp only [Nat.mul_assoc, Nat.mul_left_comm, Nat.mul_comm]
          _ = (2 * (m * 2 ^ 54)) * 2 ^ (P + J) := h5.symm
          _ = (m * 2 ^ 54) * (2 * 2 ^ (P + J)) := by simp only [Nat.mul_assoc, Nat.mul_left_comm, Nat.mul_comm]
      exact (Nat.eq_of_mul_eq_mul_right (by omega) h4).symm
    have h6 : m * 2 ^ 54 % n = 0 := by rw [h3]; exact Nat.mul_mod_right _ _
    have h7 := q3 h6
    have h8 : mag = t * 2 ^ (c + 1) := by
      rw [h3, Nat.mul_comm mag, Nat.mul_left_comm] at h7
      have := Nat.eq_of_mul_eq_mul_left (by omega) h7
      rw [this, Nat.pow_succ]
      simp only [Nat.mul_left_comm, Nat.mul_comm]
    have e9 : c + 1 + P = ex := by omega
    rw [h8, Nat.mul_assoc, ← Nat.pow_add, e9]

theorem exV (k : Int) (h : k.natAbs ≤ 2 ^ 53) : rnI (k * ((2 ^ ex : Nat) : Int)) = k * ((2 ^ ex : Nat) : Int) := by
  rcases Nat.lt_or_ge k.natAbs (2 ^ 53) with h1 | h1
  · exact rnI_exact _ k.natAbs ex h1 (abs_mul _ _)
  · refine rnI_exact _ 1 (53 + ex) (by omega) ?_
    rw [abs_mul, Nat.one_mul, Nat.pow_add, show k.natAbs = 2 ^ 53 from by omega]
theorem smallV (k : Int) (h : k.natAbs ≤ 2 ^ 53) : (k * ((2 ^ ex : Nat) : Int)).natAbs < 2 ^ 2096 := by
  rw [abs_mul]
  calc k.natAbs * 2 ^ ex ≤ 2 ^ 53 * 2 ^ ex := Nat.mul_le_mul_right _ h
    _ = 2 ^ (53 + ex) := (Nat.pow_add _ _ _).symm
    _ < 2 ^ 2096 := Nat.pow_lt_pow_right (by omega) (by rw [ex_eq]; omega)
theorem V_add {x y : Nat} {a b : Int} (hx : V x a) (hy : V y b) (h : (a + b).natAbs ≤ 2 ^ 53) : ∃ r, double.add x y = some r ∧ V r (a + b) := by
  have e : a * ((2 ^ ex : Nat) : Int) + b * ((2 ^ ex : Nat) : Int) = (a + b) * ((2 ^ ex : Nat) : Int) := (Int.add_mul _ _ _).symm
  obtain ⟨r, h1, h2⟩ := R_add hx hy (by rw [e]; exact smallV _ h)
  rw [e, exV _ h] at h2
  exact ⟨r, h1, h2⟩
theorem V_sub {x y : Nat} {a b : Int} (hx : V x a) (hy : V y b) (h : (a - b).natAbs ≤ 2 ^ 53) : ∃ r, double.sub x y = some r ∧ V r (a - b) := by
  have e : a * ((2 ^ ex : Nat) : Int) - b * ((2 ^ ex : Nat) : Int) = (a - b) * ((2 ^ ex : Nat) : Int) := (Int.sub_mul _ _ _).symm
  obtain ⟨r, h1, h2⟩ := R_sub hx hy (by rw [e]; exact smallV _ h)
  rw [e, exV _ h] at h2
  exact ⟨r, h1, h2⟩
theorem V_zero {x : Nat} : V x 0 ↔ R x 0 := by unfold V; rw [Int.zero_mul]
theorem sg_xor (s t : Bool) (a b : Nat) : sg (s ^^ t) (a * b) = sg s a * sg t b := by
  unfold sg
  cases s <;> cases t <;> simp [Int.neg_mul, Int.mul_neg]
theorem sg_decide (k : Int) : sg (decide (k < 0)) k.natAbs = k := sg_natAbs k
theorem V_mul {x y : Nat} {a b : Int} (hx : V x a) (hy : V y b) (h : (a * b).natAbs ≤ 2 ^ 53) : ∃ r, double.mul x y = some r ∧ V r (a * b) := by
  by_cases ha : a = 0
  · subst ha
    rw [Int.zero_mul]
    obtain ⟨r, h1, h2⟩ := mul_zero_left (V_zero.1 hx) hy
    exact ⟨r, h1, V_zero.2 h2⟩
  by_cases hb : b = 0
  · subst hb
    rw [Int.mul_zero]
    obtain ⟨r, h1, h2⟩ := mul_zero_right hx (V_zero.1 hy)
    exact ⟨r, h1, V_zero.2 h2⟩
  obtain ⟨m, I, e1, a1, a2, a3, a4, _⟩ := V_norm hx ha
  obtain ⟨n, J, e2, b1, b2, b3, b4, _⟩ := V_norm hy hb
  have ee := ex_eq
  obtain ⟨P, hP⟩ : ∃ P, P + ex = I + J := ⟨I + J - ex, by omega⟩
  have hpl : ((I : Int) - 1074 + ((J : Int) - 1074) + 1074).toNat = P := by omega
  have hv : m * n * 2 ^ P = (a * b).natAbs * 2 ^ ex := by
    refine Nat.eq_of_mul_eq_mul_right (Nat.two_pow_pos ex) ?_
    rw [Nat.mul_assoc (m * n), ← Nat.pow_add, hP, Nat.pow_add, Int.natAbs_mul]
    calc m * n * (2 ^ I * 2 ^ J) = (m * 2 ^ I) * (n * 2 ^ J) := by simp only [Nat.mul_assoc, Nat.mul_left_comm]
      _ = (a.natAbs * 2 ^ ex) * (b.natAbs * 2 ^ ex) := by rw [a3, b3]
      _ = a.natAbs * b.natAbs * 2 ^ ex * 2 ^ ex := by simp only [Nat.mul_assoc, Nat.mul_left_comm, Nat.mul_comm]
  have hz : (a * b) * ((2 ^ ex : Nat) : Int) = sg (decide (a < 0) ^^ decide (b < 0)) (m * n * 2 ^ ((I : Int) - 1074 + ((J : Int) - 1074) + 1074).toNat) := by
    rw [hpl, hv, Int.natAbs_mul, sg_mul, sg_xor, sg_decide, sg_decide]
  have hr := R_write (neg := decide (a < 0) ^^ decide (b < 0)) (mag := m * n) (place := (I : Int) - 1074 + ((J : Int) - 1074)) (by omega) hz (smallV _ h)
  rw [exV _ h] at hr
  exact ⟨_, by rw [Format.mul, e1, e2]; rfl, hr⟩
theorem V_int (n : Int) (h : n.natAbs ≤ 2 ^ 53) : V (double.write (.number (decide (n < 0)) n.natAbs 0)) n := by
  have ee := ex_eq
  have e : ((0 : Int) + 1074).toNat = ex := by omega
  have hr := R_write (neg := decide (n < 0)) (mag := n.natAbs) (place := 0) (z := n * ((2 ^ ex : Nat) : Int)) (by omega) (by rw [e, sg_mul, sg_decide]) (smallV _ h)
  rw [exV _ h] at hr
  exact hr
theorem V_order {x y : Nat} {a b : Int} (hx : V x a) (hy : V y b) : double.order x y = some (compare a b) := by
  rw [R_order hx hy, compare_mul _ (Nat.two_pow_pos ex)]
/-- a quotient is told by the numbers -/
theorem div_same {x y x' y' : Nat} {k w : Int} (hx : V x k) (hx' : V x' k) (hy : V y w) (hy' : V y' w) (hk : k ≠ 0) (hw : w ≠ 0) : double.div x y = double.div x' y' := by
  unfold Format.div
  rw [same_read hx hx' (big_V hk), same_read hy hy' (big_V hw)]

/-! ### to a whole number -/
theorem toInt_of {x : Nat} {z : Int} (h : R x z) : ∃ n : Int, (double.read x).toInt .zero = some n ∧ n.natAbs * 2 ^ ex ≤ z.natAbs := by
  obtain ⟨s, m, i, h1, hi, rfl⟩ := h
  rw [h1, Datum.toInt, Datum.integral]
  refine ⟨_, rfl, ?_⟩
  rw [signed_eq, Int.natAbs_mul, natAbs_sg, natAbs_sg]
  have ee := ex_eq
  have hc : Toward.zero.cut s (m <<< i.toNat) (-i).toNat ≤ m * 2 ^ i.toNat / 2 ^ (-i).toNat := by
    unfold Toward.cut
    simp only [Nat.shiftLeft_eq, Nat.one_mul, Bool.toNat_false, Nat.add_zero]
    generalize hM : m * 2 ^ i.toNat = M
    rcases Nat.lt_or_ge (-i).toNat (M.log2 + 2) with hl | hl
    · rw [Nat.min_eq_left (Nat.le_of_lt hl)]
      exact Nat.le_refl _
    · rw [Nat.min_eq_right hl]
      have h0 : M < 2 ^ (M.log2 + 2) := Nat.lt_of_lt_of_le Nat.lt_log2_self (pow_le _ _ (by omega))
      rw [Nat.div_eq_of_lt h0]
      exact Nat.zero_le _
  have h2 : (((2 ^ 0 : Nat) : Int)).natAbs = 1 := rfl
  rw [h2, Nat.mul_one]
  refine Nat.le_trans (Nat.mul_le_mul_right _ hc) ?_
  rcases Int.lt_or_le i 0 with hn | hn
  · have e0 : i.toNat = 0 := by omega
    rw [e0, Nat.pow_zero, Nat.mul_one, show ex = (-i).toNat + (i + 1074).toNat from by omega, Nat.pow_add, ← Nat.mul_assoc]
    exact Nat.mul_le_mul_right _ (Nat.div_mul_le_self _ _)
  · have e0 : (-i).toNat = 0 := by omega
    rw [e0, Nat.pow_zero, Nat.div_one, Nat.mul_assoc, ← Nat.pow_add, show i.toNat + ex = (i + 1074).toNat from by omega]
    exact Nat.le_refl _

/-! ### how far a rounding goes -/
theorem rn_near (Z c : Nat) (h : Z < 2 ^ (c + 53)) : absv (rn Z) ≤ Z + 2 ^ c ∧ Z ≤ absv (rn Z) + 2 ^ c := by
  obtain ⟨h1, h2⟩ := rn_err Z
  have hl : Z.log2 - 52 ≤ c := by
    rcases Nat.eq_zero_or_pos Z with h0 | h0
    · subst h0; simp
    · have := (Nat.log2_lt (Nat.ne_of_gt h0)).2 h; omega
  have hp := pow_le _ _ hl
  omega
theorem sg_dist (s : Bool) (a b d : Nat) (h1 : a ≤ b + d) (h2 : b ≤ a + d) : (sg s a - sg s b).natAbs ≤ d := by
  unfold sg
  cases s <;> simp <;> omega
theorem rnI_near (z : Int) (c : Nat) (h : z.natAbs < 2 ^ (c + 53)) : (rnI z - z).natAbs ≤ 2 ^ c := by
  obtain ⟨h1, h2⟩ := rn_near _ _ h
  have := sg_dist (decide (z < 0)) _ _ _ h1 h2
  rw [sg_natAbs] at this
  exact this
theorem absv_pow (e : Nat) (h : 1 ≤ e) : absv (e * 2 ^ 52) = 2 ^ (e + 51) := by
  have h1 : ¬ e * 2 ^ 52 < 2 ^ 52 := by omega
  unfold absv
  rw [if_neg h1, Nat.mul_mod_left, Nat.mul_div_cancel _ (by omega), Nat.add_zero, ← Nat.pow_add]
  congr 1
  omega
/-- the float 2^(e + 51), in units -/
theorem R_power (neg : Bool) (e x : Nat) (h1 : 1 ≤ e) (h2 : e < 2047) (hx : double.word neg (e * 2 ^ 52) = x) : R x (sg neg (2 ^ (e + 51))) := by
  have h := R_word neg (e * 2 ^ 52) (by rw [inf_eq]; omega)
  rw [absv_pow e h1, hx] at h
  exact h

/-- the error of a quotient that is not great: E = 2^(ex - 34) -/
theorem quo_near {x y : Nat} {k w : Int} (hx : V x k) (hy : V y w) (hk : k ≠ 0) (hkb : k.natAbs ≤ 2 ^ 53) (hw : 1 ≤ w) (hwb : w.natAbs ≤ 2 ^ 32) (hq : k.natAbs ≤ 2 ^ 21 * w.natAbs) :
    ∃ r Q, double.div x y = some r ∧ R r Q ∧ (Q * w - k * ((2 ^ ex : Nat) : Int)).natAbs ≤ 9 * 2 ^ (ex - 34) * w.natAbs ∧ Q.natAbs ≤ 2 ^ (21 + ex) + 9 * 2 ^ (ex - 34) ∧
      (∀ t : Int, k = t * w → t.natAbs ≤ 2 ^ 21 → V r t) := by
  obtain ⟨r, Z, P, hd, hR, u1, u2, u3, u4⟩ := R_div hx hy hk hkb hw hwb
  have ee := ex_eq
  have hw0 : 0 < w.natAbs := by omega
  have hP : P + 34 ≤ ex := by
    have h1 : 2 ^ (P + 54) < 2 ^ (21 + ex) := by
      refine Nat.lt_of_mul_lt_mul_left (a := w.natAbs) ?_
      calc w.natAbs * 2 ^ (P + 54) < k.natAbs * 2 ^ ex := u3
        _ ≤ 2 ^ 21 * w.natAbs * 2 ^ ex := Nat.mul_le_mul_right _ hq
        _ = w.natAbs * 2 ^ (21 + ex) := by rw [Nat.pow_add, Nat.mul_comm (2 ^ 21), Nat.mul_assoc]
    have h2 := (Nat.pow_lt_pow_iff_right (by omega : 1 < 2)).1 h1
    omega
  have hPE : 2 ^ P ≤ 2 ^ (ex - 34) := pow_le _ _ (by omega)
  have h8 : 2 ^ (ex - 31) = 8 * 2 ^ (ex - 34) := by rw [show ex - 31 = 3 + (ex - 34) from by omega, Nat.pow_add]
  have hZ : Z ≤ 2 ^ (21 + ex) + 2 ^ P := by
    refine Nat.le_of_mul_le_mul_left ?_ hw0
    calc w.natAbs * Z ≤ k.natAbs * 2 ^ ex + w.natAbs * 2 ^ P := u1
      _ ≤ 2 ^ 21 * w.natAbs * 2 ^ ex + w.natAbs * 2 ^ P := Nat.add_le_add_right (Nat.mul_le_mul_right _ hq) _
      _ = w.natAbs * (2 ^ (21 + ex) + 2 ^ P) := by rw [Nat.mul_add, Nat.pow_add, Nat.mul_comm (2 ^ 21), Nat.mul_assoc]
  have hZ2 : Z < 2 ^ ((ex - 31) + 53) := by
    have h1 : 2 ^ ((ex - 31) + 53) = 2 ^ (21 + ex) + 2 ^ (21 + ex) := by rw [show (ex - 31) + 53 = (21 + ex) + 1 from by omega, Nat.pow_succ, Nat.mul_two]
    have h2 : 2 ^ P < 2 ^ (21 + ex) := Nat.pow_lt_pow_right (by omega) (by omega)
    omega
  obtain ⟨n1, n2⟩ := rn_near Z _ hZ2
  rw [h8] at n1 n2
  refine ⟨r, _, hd, hR, ?_, ?_, ?_⟩
  · have e1 : sg (decide (k < 0)) (absv (rn Z)) * w - k * ((2 ^ ex : Nat) : Int) = sg (decide (k < 0)) (absv (rn Z) * w.natAbs) - sg (decide (k < 0)) (k.natAbs * 2 ^ ex) := by
      rw [sg_mul, sg_mul, sg_decide, show (w.natAbs : Int) = w from by omega]
    rw [e1]
    refine sg_dist _ _ _ _ ?_ ?_
    · calc absv (rn Z) * w.natAbs ≤ (Z + 8 * 2 ^ (ex - 34)) * w.natAbs := Nat.mul_le_mul_right _ n1
        _ = w.natAbs * Z + 8 * 2 ^ (ex - 34) * w.natAbs := by rw [Nat.add_mul, Nat.mul_comm Z]
        _ ≤ k.natAbs * 2 ^ ex + w.natAbs * 2 ^ (ex - 34) + 8 * 2 ^ (ex - 34) * w.natAbs := Nat.add_le_add_right (Nat.le_trans u1 (Nat.add_le_add_left (Nat.mul_le_mul_left _ hPE) _)) _
        _ = k.natAbs * 2 ^ ex + 9 * 2 ^ (ex - 34) * w.natAbs := by
          rw [Nat.mul_comm w.natAbs, Nat.mul_assoc 8, Nat.mul_assoc 9]; omega
    · calc k.natAbs * 2 ^ ex ≤ w.natAbs * Z + w.natAbs * 2 ^ (ex - 34) := Nat.le_trans u2 (Nat.add_le_add_left (Nat.mul_le_mul_left _ hPE) _)
        _ ≤ w.natAbs * (absv (rn Z) + 8 * 2 ^ (ex - 34)) + w.natAbs * 2 ^ (ex - 34) := Nat.add_le_add_right (Nat.mul_le_mul_left _ n2) _
        _ = absv (rn Z) * w.natAbs + 9 * 2 ^ (ex - 34) * w.natAbs := by
          rw [Nat.mul_add, Nat.mul_comm w.natAbs (absv (rn Z)), Nat.mul_comm w.natAbs (8 * _), Nat.mul_comm w.natAbs, Nat.mul_assoc 8, Nat.mul_assoc 9]; omega
  · rw [natAbs_sg]; omega
  · intro t ht ht21
    have e0 := u4 t.natAbs (by rw [ht, Int.natAbs_mul]) ht21
    have hN : t.natAbs < 2 ^ 53 := by omega
    rw [e0, rn_exact _ _ hN] at hR
    have hs : decide (k < 0) = decide (t < 0) := by
      have h := neg_mul t w.natAbs hw0
      rw [show (w.natAbs : Int) = w from by omega, ← ht] at h
      exact h
    rw [hs, sg_mul, sg_decide] at hR
    exact hR
end Go.Proofs.Qxb6605538a.Flt
