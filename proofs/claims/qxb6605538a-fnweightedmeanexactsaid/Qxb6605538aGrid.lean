/-
  THE WALKS of onGrid and sameFloat; the points without weight.
-/
import Derived.Test.Qxb6605538aExact
namespace Go.Proofs.Qxb6605538a.WF
open Go.RowKit Ieee Flt
attribute [local go_sem] run_store_float

/-- x is a whole number from α to β -/
def OnGrid (x : Nat) (α β : Int) : Prop := ∃ n, floatToIntVal .f64 x .i64 = some n ∧ V x n ∧ α ≤ n ∧ n ≤ β

theorem some_eq {c : Ordering} (h : (some c == some .eq) = true) : c = .eq := by cases c <;> first | rfl | cases h
theorem cut_of {x lo hi : Nat} {α β : Int} (ha : V lo α) (hb : V hi β) (h1 : α.natAbs ≤ 2 ^ 20) (h2 : β.natAbs ≤ 2 ^ 20)
    (t1 : (FloatKind.f64.format.order x lo == some .gt || FloatKind.f64.format.order x lo == some .eq) = true) (t2 : (FloatKind.f64.format.order x hi == some .lt || FloatKind.f64.format.order x hi == some .eq) = true) :
    ∃ n, floatToIntVal .f64 x .i64 = some n ∧ ((FloatKind.f64.format.order (floatOfInt .f64 n) x == some .eq) = true → OnGrid x α β) := by
  obtain ⟨z, hz, z1, z2⟩ := between ha hb t1 t2
  obtain ⟨n, e, hn⟩ := toInt_of hz
  have hU : 0 < 2 ^ ex := Nat.two_pow_pos ex
  have hzb : z.natAbs ≤ 2 ^ 20 * 2 ^ ex := by
    have p1 : (α * ((2 ^ ex : Nat) : Int)).natAbs ≤ 2 ^ 20 * 2 ^ ex := by rw [abs_mul]; exact Nat.mul_le_mul_right _ h1
    have p2 : (β * ((2 ^ ex : Nat) : Int)).natAbs ≤ 2 ^ 20 * 2 ^ ex := by rw [abs_mul]; exact Nat.mul_le_mul_right _ h2
    generalize (α * ((2 ^ ex : Nat) : Int)) = A at *
    generalize (β * ((2 ^ ex : Nat) : Int)) = B at *
    omega
  have hnb : n.natAbs ≤ 2 ^ 20 := Nat.le_of_mul_le_mul_right (Nat.le_trans hn hzb) hU
  have he : floatToIntVal .f64 x .i64 = some n := by
    unfold floatToIntVal
    have e' : (FloatKind.f64.decode x).toInt .zero = some n := e
    rw [e']
    simp only
    rw [if_pos]
    have a1 : IntKind.i64.min = -9223372036854775808 := by decide
    have a2 : IntKind.i64.max = 9223372036854775807 := by decide
    rw [a1, a2]
    omega
  refine ⟨n, he, fun ht => ⟨n, he, ?_, ?_⟩⟩
  · have ho : FloatKind.f64.format.order (floatOfInt .f64 n) x = some (compare (n * ((2 ^ ex : Nat) : Int)) z) := R_order (V_of n (by omega)) hz
    rw [ho] at ht
    have := cmp_eq.1 (some_eq ht)
    unfold V
    rw [this]
    exact hz
  · have ho : FloatKind.f64.format.order (floatOfInt .f64 n) x = some (compare (n * ((2 ^ ex : Nat) : Int)) z) := R_order (V_of n (by omega)) hz
    rw [ho] at ht
    have := cmp_eq.1 (some_eq ht)
    rw [← this] at z1 z2
    have hU' : (0 : Int) < ((2 ^ ex : Nat) : Int) := by omega
    exact ⟨Int.le_of_mul_le_mul_right z1 hU', Int.le_of_mul_le_mul_right z2 hU'⟩

def Told (p : Prop) (e : Ending) : Prop := ∃ b : Bool, e = .returned (.bool b) ∧ (b = true → p)
theorem Try.isfloat24 : (Try.prog.underlying 24).isSome = true := by rw [Try.underlying24]; rfl

set_option maxHeartbeats 400000 in
theorem onGrid_any (w : World) (x lo hi : Nat) (α β : Int) (ha : V lo α) (hb : V hi β) (h1 : α.natAbs ≤ 2 ^ 20) (h2 : β.natAbs ≤ 2 ^ 20) :
    Calls Try.prog 9 #[.float .f64 x, .float .f64 lo, .float .f64 hi] w fun e w' => Told (OnGrid x α β) e ∧ w' = w := by
  by_cases t1 : (FloatKind.f64.format.order x lo == some .gt || FloatKind.f64.format.order x lo == some .eq) = true
  · by_cases t2 : (FloatKind.f64.format.order x hi == some .lt || FloatKind.f64.format.order x hi == some .eq) = true
    · obtain ⟨n, he, hg⟩ := cut_of ha hb h1 h2 t1 t2
      have HG := hide hg
      have HA := hide ha
      have HB := hide hb
      clear hg ha hb
      have hcv := fun w => run_convert_float_int (P := Try.prog) w 24 2 .f64 .i64 x n Try.isfloat24 Try.underlying2 he
      go_enter Try.func9, Try.ntmps9
      go_wp2
      go_ret
      exact ⟨⟨_, rfl, unhide HG⟩, rfl⟩
    · have t2' := Bool.eq_false_iff.2 t2
      go_enter Try.func9, Try.ntmps9
      go_wp2
      all_goals go_ret
      all_goals exact ⟨⟨false, rfl, fun h => by cases h⟩, rfl⟩
  · have t1' := Bool.eq_false_iff.2 t1
    go_enter Try.func9, Try.ntmps9
    go_wp2
    all_goals go_ret
    all_goals exact ⟨⟨false, rfl, fun h => by cases h⟩, rfl⟩

set_option maxHeartbeats 400000 in
theorem same_any (w : World) (x : Nat) :
    Calls Try.prog 12 #[.float .f64 x, .float .f64 x] w fun e w' => e = .returned (.bool true) ∧ w' = w := by
  by_cases t1 : (FloatKind.f64.format.order x x == some .eq) = true
  · go_enter Try.func12, Try.ntmps12
    go_wp2
    all_goals go_ret
    all_goals exact ⟨rfl, rfl⟩
  · have t2 : (FloatKind.f64.format.order x x != some .eq) = true := by simp only [bne, Bool.eq_false_iff.2 t1, Bool.not_false]
    go_enter Try.func12, Try.ntmps12
    go_wp2
    all_goals go_ret
    all_goals exact ⟨rfl, rfl⟩

/-! ### points without weight -/
theorem hv_nought (h : Nat → Nat) (n : Nat) (hR : ∀ i, i < n → R (h i) 0) (h1 : 1 ≤ n) : ∀ k, k ≤ n → hv h k = 0
  | 0, _ => rfl
  | k + 1, hk => by
    have ih := hv_nought h n hR h1 k (by omega)
    rw [hv_no]
    · exact ih
    · have ho : FloatKind.f64.format.order (h k) (h (hv h k)) = some (compare (0 : Int) 0) := R_order (hR k (by omega)) (hR _ (by rw [ih]; omega))
      rw [ho, cmp_eq.2 rfl]
      rfl
def ZJ (_k a _p _v : Nat) : Prop := R a 0
theorem zjs {n : Nat} {f g h : Nat → Nat} (hR : ∀ i, i < n → R (h i) 0) (fH j a p v a' p' v' : Nat) (hj : j < n) (hJ : ZJ j a p v) (hs : Step fH (f j) (g j) (h j) a p v a' p' v') : ZJ (j + 1) a' p' v' := by
  obtain ⟨d, m, u, s1, _⟩ := hs
  have hx : V a 0 := V_zero.2 hJ
  have hy : V (h j) 0 := V_zero.2 (hR j hj)
  obtain ⟨r, e, hr⟩ := V_add hx hy (by omega)
  have ea : a' = r := s1.is e
  subst ea
  exact V_zero.1 hr
theorem nought_answer {n : Nat} {f g h : Nat → Nat} (hR : ∀ i, i < n → R (h i) 0) (h1 : 1 ≤ n) {a p v : Nat} {e : Ending} (hJ : ZJ n a p v) (hA : Answer (f (hv h n)) (g (hv h n)) a p v e) :
    e = .returned (.tuple #[.float .f64 (f 0), .float .f64 (g 0), .float .f64 0]) := by
  rw [hv_nought h n hR h1 n (Nat.le_refl _)] at hA
  rcases hA with ⟨_, he⟩ | ⟨h0, _⟩
  · exact he
  · rw [eq_same hJ R_nought] at h0
    cases h0
theorem nought_of {x : Nat} (t1 : (FloatKind.f64.format.order x 0 == some .gt || FloatKind.f64.format.order x 0 == some .eq) = true) (t2 : (FloatKind.f64.format.order x 0 == some .gt) = false) : R x 0 := by
  rw [t2, Bool.false_or] at t1
  obtain ⟨v, hv, h1, h2⟩ := between R_nought R_nought (x := x) (by rw [show double.order x 0 = FloatKind.f64.format.order x 0 from rfl, t1, Bool.or_true]) (by rw [show double.order x 0 = FloatKind.f64.format.order x 0 from rfl, t1, Bool.or_true])
  have : v = 0 := by omega
  subst this
  exact hv
theorem V_twenty : V 4697254411347427328 (2 ^ 20) := by
  have h := R_at false 1043 4697254411347427328 (20 + ex) (by omega) (by omega) (by decide) (by rw [ex_eq])
  rw [Nat.pow_add, sg_mul, show sg false (2 ^ 20) = (2 ^ 20 : Int) from by decide] at h
  exact h
theorem V_minus : V 13920626448202203136 (-2 ^ 20) := by
  have h := R_at true 1043 13920626448202203136 (20 + ex) (by omega) (by omega) (by decide) (by rw [ex_eq])
  rw [Nat.pow_add, sg_mul, show sg true (2 ^ 20) = (-2 ^ 20 : Int) from by decide] at h
  exact h
end Go.Proofs.Qxb6605538a.WF
