/-
  ON THE GRID OF WHOLE NUMBERS: the plain law of the weighted mean.
-/
import Derived.Test.Qxb6605538aFltInt
import Derived.Test.Qxb6605538aMean
import Derived.Laws.Cover2
namespace Go.Proofs.Qxb6605538a.WF
open Go.RowKit Ieee Flt

theorem V_of (n : Int) (h : n.natAbs ≤ 2 ^ 53) : V (floatOfInt .f64 n) n := V_int n h

/-! ### sums -/
def sm (F : Nat → Int) : Nat → Int
  | 0 => 0
  | k + 1 => sm F k + F k
theorem sm_abs (F : Nat → Int) (B : Nat) (n : Nat) (h : ∀ i, i < n → (F i).natAbs ≤ B) : ∀ k, k ≤ n → (sm F k).natAbs ≤ k * B
  | 0, _ => by simp [sm]
  | k + 1, hk => by
    have h1 := sm_abs F B n h k (by omega)
    have h2 := h k (by omega)
    simp only [sm, Nat.add_mul, Nat.one_mul]
    omega
theorem sm_nonneg (F : Nat → Int) (n : Nat) (h : ∀ i, i < n → 0 ≤ F i) : ∀ k, k ≤ n → 0 ≤ sm F k
  | 0, _ => by simp [sm]
  | k + 1, hk => by
    have h1 := sm_nonneg F n h k (by omega)
    have h2 := h k (by omega)
    simp only [sm]
    omega
theorem sm_pos (F : Nat → Int) (n : Nat) (h : ∀ i, i < n → 0 ≤ F i) (j : Nat) (hj : j < n) (hp : 0 < F j) : 0 < sm F n := by
  have key : ∀ k, k ≤ n → j < k → 0 < sm F k := by
    intro k
    induction k with
    | zero => intro _ h; omega
    | succ k ih =>
      intro hk hjk
      have h1 := sm_nonneg F n h k (by omega)
      have h2 := h k (by omega)
      simp only [sm]
      rcases Nat.lt_or_ge j k with hl | hl
      · have := ih (by omega) hl; omega
      · have : j = k := by omega
        subst this; omega
  exact key n (Nat.le_refl _) hj
/-- a weighted sum is within the bound times the weights' sum -/
theorem sm_within (W G : Nat → Int) (B n : Nat) (h0 : ∀ i, i < n → 0 ≤ W i) (h : ∀ i, i < n → (G i).natAbs ≤ B) : ∀ k, k ≤ n → (sm (fun i => W i * G i) k).natAbs ≤ B * (sm W k).natAbs
  | 0, _ => by simp [sm]
  | k + 1, hk => by
    have h1 := sm_within W G B n h0 h k (by omega)
    have h2 := h k (by omega)
    have h3 := h0 k (by omega)
    have h4 := sm_nonneg W n h0 k (by omega)
    have e : (sm W k + W k).natAbs = (sm W k).natAbs + (W k).natAbs := by omega
    simp only [sm]
    rw [e, Nat.mul_add]
    have h5 : (W k * G k).natAbs ≤ B * (W k).natAbs := by rw [Int.natAbs_mul, Nat.mul_comm]; exact Nat.mul_le_mul_right _ h2
    omega
theorem sm_shift (W X : Nat → Int) (c : Int) : ∀ k, sm (fun i => W i * (X i - c)) k = sm (fun i => W i * X i) k - c * sm W k
  | 0 => by simp [sm]
  | k + 1 => by
    have ih := sm_shift W X c k
    simp only [sm]
    rw [ih, Int.mul_sub, Int.mul_add, Int.mul_comm (W k) c]
    omega

/-- the points lie on the grid -/
structure Grid (n : Nat) (f g h : Nat → Nat) (X Y W : Nat → Int) : Prop where
  le : n ≤ 4096
  x : ∀ i, i < n → V (f i) (X i) ∧ (X i).natAbs ≤ 2 ^ 20
  y : ∀ i, i < n → V (g i) (Y i) ∧ (Y i).natAbs ≤ 2 ^ 20
  w : ∀ i, i < n → V (h i) (W i) ∧ (W i).natAbs ≤ 2 ^ 20 ∧ 0 ≤ W i

def GJ (X Y W : Nat → Int) (c : Int) (k a p v : Nat) : Prop := V a (sm W k) ∧ V p (sm (fun i => W i * (X i - c)) k) ∧ V v (sm (fun i => W i * Y i) k)
theorem V_nought : V 0 0 := V_zero.2 R_nought
theorem gj0 (X Y W : Nat → Int) (c : Int) : GJ X Y W c 0 0 0 0 := ⟨V_nought, V_nought, V_nought⟩

theorem prod_abs {a b : Int} {A B : Nat} (h1 : a.natAbs ≤ A) (h2 : b.natAbs ≤ B) : (a * b).natAbs ≤ A * B := by
  rw [Int.natAbs_mul]; exact Nat.mul_le_mul h1 h2

theorem Grid.shift {n : Nat} {f g h : Nat → Nat} {X Y W : Nat → Int} (G : Grid n f g h X Y W) {c : Int} (hc : c.natAbs ≤ 2 ^ 20) (i : Nat) (hi : i < n) : (X i - c).natAbs ≤ 2 ^ 21 := by
  have := (G.x i hi).2
  omega

theorem gjs {n : Nat} {f g h : Nat → Nat} {X Y W : Nat → Int} (G : Grid n f g h X Y W) (h1 : 1 ≤ n) (j a p v a' p' v' : Nat) (hj : j < n) (hJ : GJ X Y W (X (hv h n)) j a p v) (hs : Step (f (hv h n)) (f j) (g j) (h j) a p v a' p' v') :
    GJ X Y W (X (hv h n)) (j + 1) a' p' v' := by
  obtain ⟨ja, jp, jv⟩ := hJ
  obtain ⟨d, m, u, s1, s2, s3, s4, s5, s6⟩ := hs
  have hl := hv_lt h n h1 n (Nat.le_refl _)
  have hc := (G.x _ hl).2
  have hn := G.le
  have hW : ∀ i, i < n → (W i).natAbs ≤ 2 ^ 20 := fun i hi => (G.w i hi).2.1
  have hK : ∀ i, i < n → (W i * (X i - X (hv h n))).natAbs ≤ 2 ^ 41 := fun i hi => Nat.le_trans (prod_abs (hW i hi) (G.shift hc i hi)) (by omega)
  have hY : ∀ i, i < n → (W i * Y i).natAbs ≤ 2 ^ 40 := fun i hi => Nat.le_trans (prod_abs (hW i hi) (G.y i hi).2) (by omega)
  have b1 := sm_abs W _ n hW (j + 1) (by omega)
  have b2 := sm_abs _ _ n hK (j + 1) (by omega)
  have b3 := sm_abs _ _ n hY (j + 1) (by omega)
  simp only [sm] at b1 b2 b3
  have m1 : (j + 1) * 2 ^ 20 ≤ 4096 * 2 ^ 20 := Nat.mul_le_mul_right _ (by omega)
  have m2 : (j + 1) * 2 ^ 41 ≤ 4096 * 2 ^ 41 := Nat.mul_le_mul_right _ (by omega)
  have m3 : (j + 1) * 2 ^ 40 ≤ 4096 * 2 ^ 40 := Nat.mul_le_mul_right _ (by omega)
  have k2 := hK j hj
  have k3 := hY j hj
  refine ⟨?_, ?_, ?_⟩
  · obtain ⟨r, e, hr⟩ := V_add ja (G.w j hj).1 (by omega)
    rw [s1.is e]
    exact hr
  · obtain ⟨r2, e2, hr2⟩ := V_sub (G.x j hj).1 (G.x _ hl).1 (by have := G.shift hc j hj; omega)
    have ed : d = r2 := s2.is e2
    subst ed
    obtain ⟨r3, e3, hr3⟩ := V_mul (G.w j hj).1 hr2 (by omega)
    have em : m = r3 := s3.is e3
    subst em
    obtain ⟨r4, e4, hr4⟩ := V_add jp hr3 (by omega)
    rw [s4.is e4]
    exact hr4
  · obtain ⟨r3, e3, hr3⟩ := V_mul (G.w j hj).1 (G.y j hj).1 (by omega)
    have em : u = r3 := s5.is e3
    subst em
    obtain ⟨r4, e4, hr4⟩ := V_add jv hr3 (by omega)
    rw [s6.is e4]
    exact hr4

theorem R_at (neg : Bool) (e x c : Nat) (h1 : 1 ≤ e) (h2 : e < 2047) (hx : double.word neg (e * 2 ^ 52) = x) (hc : e + 51 = c) : R x (sg neg (2 ^ c)) := by
  subst hc
  exact R_power neg e x h1 h2 hx
theorem eq_le {d c : Nat} {u t : Int} (hd : R d u) (hc : R c t) (h : u ≤ t) : (FloatKind.f64.format.order d c == some .lt || FloatKind.f64.format.order d c == some .eq) = true := by
  have ho : FloatKind.f64.format.order d c = some (compare u t) := R_order hd hc
  rw [ho]
  rcases Int.lt_or_le u t with h1 | h1
  · rw [cmp_lt.2 h1]; rfl
  · rw [cmp_eq.2 (by omega)]; rfl
theorem eq_ge {d c : Nat} {u t : Int} (hd : R d u) (hc : R c t) (h : t ≤ u) : (FloatKind.f64.format.order d c == some .gt || FloatKind.f64.format.order d c == some .eq) = true := by
  have ho : FloatKind.f64.format.order d c = some (compare u t) := R_order hd hc
  rw [ho]
  rcases Int.lt_or_le t u with h1 | h1
  · rw [cmp_gt.2 h1]; rfl
  · rw [cmp_eq.2 (by omega)]; rfl
theorem eq_same {x y : Nat} {u : Int} (hx : R x u) (hy : R y u) : (FloatKind.f64.format.order x y == some .eq) = true := by
  have ho : FloatKind.f64.format.order x y = some (compare u u) := R_order hx hy
  rw [ho, cmp_eq.2 rfl]
  rfl
theorem ne_same {x y : Nat} {u : Int} (hx : R x u) (hy : R y u) : (FloatKind.f64.format.order x y != some .eq) = false := by
  rw [bne, eq_same hx hy]
  rfl
theorem pos_V {a : Nat} {w : Int} (h : V a w) (hw : 0 < w) : Pos a := by
  refine Or.inl ⟨_, ?_, h⟩
  have := Nat.two_pow_pos ex
  exact Int.mul_pos hw (by omega)

/-- the error of the mean place, all in all -/
theorem mean_err (c Q S Xv Rv K sx w U : Int) (E w' : Nat) (hw : w' = w.natAbs) (hw0 : 0 < w') (hS : S = c * U + Q) (hK : K = sx - c * w)
    (h1 : (Q * w - K * U).natAbs ≤ 9 * E * w') (h2 : (Xv - S).natAbs ≤ 8 * E) (h3 : (Rv * w - sx * U).natAbs ≤ 9 * E * w') : (Xv - Rv).natAbs ≤ 26 * E := by
  have e1 : (Xv - Rv) * w = (Xv - S) * w + (Q * w - K * U) - (Rv * w - sx * U) := by
    rw [hS, hK]
    simp only [Int.sub_mul, Int.add_mul]
    have : c * U * w = c * w * U := Int.mul_right_comm _ _ _
    omega
  have h4 : ((Xv - S) * w).natAbs ≤ 8 * E * w' := by rw [Int.natAbs_mul, hw]; exact Nat.mul_le_mul_right _ h2
  have h5 : (Xv - Rv).natAbs * w' ≤ 26 * E * w' := by
    have e2 : (Xv - Rv).natAbs * w' = ((Xv - Rv) * w).natAbs := by rw [Int.natAbs_mul, hw]
    rw [e2, e1]
    have a1 : 9 * E * w' = 9 * (E * w') := Nat.mul_assoc _ _ _
    have a2 : 8 * E * w' = 8 * (E * w') := Nat.mul_assoc _ _ _
    have a3 : 26 * E * w' = 26 * (E * w') := Nat.mul_assoc _ _ _
    omega
  exact Nat.le_of_mul_le_mul_right h5 hw0

theorem sg_le {d : Int} {T : Nat} (h : d.natAbs ≤ T) : d ≤ sg false T := by unfold sg; simp; omega
theorem sg_ge {d : Int} {T : Nat} (h : d.natAbs ≤ T) : sg true T ≤ d := by unfold sg; simp; omega
theorem grid_answer {n : Nat} {f g h : Nat → Nat} {X Y W : Nat → Int} (G : Grid n f g h X Y W) (h1 : 1 ≤ n) (hw : 0 < sm W n) {a p v : Nat} {e : Ending} (hJ : GJ X Y W (X (hv h n)) n a p v) (hA : Answer (f (hv h n)) (g (hv h n)) a p v e) {x y z : Nat} (he : e = .returned (.tuple #[.float .f64 x, .float .f64 y, .float .f64 z])) :
    (FloatKind.f64.format.order z (floatOfInt .f64 (sm W n)) != some .eq) = false ∧
    (∀ yb, Gives (floatBits .quo .f64 (floatOfInt .f64 (sm (fun i => W i * Y i) n)) (floatOfInt .f64 (sm W n))) yb → (FloatKind.f64.format.order y yb != some .eq) = false) ∧
    (∀ t, sm (fun i => W i * X i) n = t * sm W n → (FloatKind.f64.format.order x (floatOfInt .f64 t) == some .eq) = true) ∧
    ((∀ t, sm (fun i => W i * X i) n ≠ t * sm W n) → ∀ r d, Gives (floatBits .quo .f64 (floatOfInt .f64 (sm (fun i => W i * X i) n)) (floatOfInt .f64 (sm W n))) r → Gives (floatBits .sub .f64 x r) d →
      (FloatKind.f64.format.order d 4476578029606273024 == some .lt || FloatKind.f64.format.order d 4476578029606273024 == some .eq) = true ∧ (FloatKind.f64.format.order d 13699950066461048832 == some .gt || FloatKind.f64.format.order d 13699950066461048832 == some .eq) = true) := by
  obtain ⟨ja, jp, jv⟩ := hJ
  have hl := hv_lt h n h1 n (Nat.le_refl _)
  have hc := (G.x _ hl).2
  have hcV := (G.x _ hl).1
  have hn := G.le
  have hW : ∀ i, i < n → (W i).natAbs ≤ 2 ^ 20 := fun i hi => (G.w i hi).2.1
  have hW0 : ∀ i, i < n → 0 ≤ W i := fun i hi => (G.w i hi).2.2
  have wb0 := sm_abs W _ n hW n (Nat.le_refl _)
  have wb : (sm W n).natAbs ≤ 2 ^ 32 := by
    have m1 : n * 2 ^ 20 ≤ 4096 * 2 ^ 20 := Nat.mul_le_mul_right _ hn
    omega
  have kb := sm_within W (fun i => X i - X (hv h n)) (2 ^ 21) n hW0 (fun i hi => G.shift hc i hi) n (Nat.le_refl _)
  have xb := sm_within W X (2 ^ 20) n hW0 (fun i hi => (G.x i hi).2) n (Nat.le_refl _)
  have yb := sm_within W Y (2 ^ 20) n hW0 (fun i hi => (G.y i hi).2) n (Nat.le_refl _)
  have hK := sm_shift W X (X (hv h n)) n
  generalize hgK : sm (fun i => W i * (X i - X (hv h n))) n = K at *
  generalize hgx : sm (fun i => W i * X i) n = sx at *
  generalize hgy : sm (fun i => W i * Y i) n = sy at *
  generalize hgw : sm W n = sw at *
  generalize X (hv h n) = c at *
  generalize f (hv h n) = fH at *
  generalize g (hv h n) = gH at *
  have Vw : V (floatOfInt .f64 sw) sw := V_of _ (by omega)
  have Vy : V (floatOfInt .f64 sy) sy := V_of _ (by omega)
  have Vx : V (floatOfInt .f64 sx) sx := V_of _ (by omega)
  have ho : FloatKind.f64.format.order a 0 = some (compare sw 0) := V_order ja V_nought
  rw [cmp_gt.2 hw] at ho
  have pa := pos_V ja hw
  have pw := pos_V Vw hw
  rcases hA with ⟨h0, _⟩ | ⟨_, q, x', y', s1, s2, s3, rfl⟩
  · rw [ho] at h0; simp at h0
  cases he
  refine ⟨ne_same ja Vw, ?_, ?_, ?_⟩
  · intro yb' s4
    by_cases hz : sy = 0
    · subst hz
      obtain ⟨r1, e1, w1⟩ := quo_zero (V_zero.1 jv) pa
      obtain ⟨r2, e2, w2⟩ := quo_zero (V_zero.1 Vy) pw
      rw [s3.is e1, s4.is e2]
      exact ne_same w1 w2
    · obtain ⟨r1, Z, P, e1, w1, _⟩ := R_div jv ja hz (by omega) (by omega) wb
      have e2 := div_same jv Vy ja Vw hz (by omega)
      rw [e1] at e2
      rw [s3.is e1, s4.is e2.symm]
      exact ne_same w1 w1
  · intro t ht
    have ht20 : t.natAbs ≤ 2 ^ 20 := by
      rw [ht, Int.natAbs_mul] at xb
      exact Nat.le_of_mul_le_mul_right xb (by omega)
    have hKt : K = (t - c) * sw := by rw [hK, ht, Int.sub_mul]
    have Vq : V q (t - c) := by
      by_cases hz : K = 0
      · have htc : t - c = 0 := by
          rcases Int.mul_eq_zero.1 (hKt.symm.trans hz) with h | h
          · exact h
          · omega
        rw [hz] at jp
        obtain ⟨r1, e1, w1⟩ := quo_zero (V_zero.1 jp) pa
        rw [s1.is e1, htc]
        exact V_zero.2 w1
      · obtain ⟨r1, Q, e1, w1, _, _, h5⟩ := quo_near jp ja hz (by omega) (by omega) wb kb
        rw [s1.is e1]
        exact h5 _ hKt (by omega)
    obtain ⟨r2, e2, w2⟩ := V_add hcV Vq (by omega)
    rw [s2.is e2]
    rw [show c + (t - c) = t from by omega] at w2
    exact eq_same w2 (V_of t (by omega))
  · intro hnd r d s4 s5
    have hK0 : K ≠ 0 := fun hz => hnd c (by omega)
    have hx0 : sx ≠ 0 := fun hz => hnd 0 (by omega)
    obtain ⟨r1, Q, e1, w1, b1, b2, _⟩ := quo_near jp ja hK0 (by omega) (by omega) wb kb
    obtain ⟨r2, Rv, e2, w2, b3, _, _⟩ := quo_near Vx Vw hx0 (by omega) (by omega) wb (by omega)
    have eq1 : q = r1 := s1.is e1
    have er : r = r2 := s4.is e2
    subst eq1 er
    have ee := ex_eq
    have hS22 : (c * ((2 ^ ex : Nat) : Int) + Q).natAbs < 2 ^ ((ex - 31) + 53) := by
      have p1 : 2 ^ ((ex - 31) + 53) = 4 * 2 ^ (20 + ex) := by rw [show (ex - 31) + 53 = 2 + (20 + ex) from by omega, Nat.pow_add]
      have p2 : 2 ^ (21 + ex) = 2 * 2 ^ (20 + ex) := by rw [show 21 + ex = 1 + (20 + ex) from by omega, Nat.pow_add]
      have p3 : 16 * 2 ^ (ex - 34) ≤ 2 ^ (20 + ex) := by
        rw [show (16 : Nat) = 2 ^ 4 from rfl, ← Nat.pow_add]
        exact pow_le _ _ (by omega)
      have p4 : (c * ((2 ^ ex : Nat) : Int)).natAbs ≤ 2 ^ (20 + ex) := by rw [abs_mul, Nat.pow_add]; exact Nat.mul_le_mul_right _ hc
      have p5 : 0 < 2 ^ (ex - 34) := Nat.two_pow_pos _
      rw [p2] at b2
      rw [p1]
      generalize (c * ((2 ^ ex : Nat) : Int)) = cU at *
      generalize 2 ^ (20 + ex) = A at *
      generalize 2 ^ (ex - 34) = E at *
      omega
    have hbig := pow_le ((ex - 31) + 53) 2096 (by omega)
    obtain ⟨r3, e3, w3⟩ := R_add hcV w1 (Nat.lt_of_lt_of_le hS22 hbig)
    have exx : x = r3 := s2.is e3
    subst exx
    have n1 := rnI_near _ _ hS22
    have p8 : 2 ^ (ex - 31) = 8 * 2 ^ (ex - 34) := by rw [show ex - 31 = 3 + (ex - 34) from by omega, Nat.pow_add]
    rw [p8] at n1
    have hD := mean_err c Q _ _ Rv K sx sw _ _ _ rfl (by omega) rfl hK b1 n1 b3
    generalize hXv : rnI (c * ((2 ^ ex : Nat) : Int) + Q) = Xv at *
    have p9 : 2 ^ ((ex - 82) + 53) = 32 * 2 ^ (ex - 34) := by rw [show (ex - 82) + 53 = 5 + (ex - 34) from by omega, Nat.pow_add]
    have p5 : 0 < 2 ^ (ex - 34) := Nat.two_pow_pos _
    have hD2 : (Xv - Rv).natAbs < 2 ^ ((ex - 82) + 53) := by rw [p9]; omega
    have n2 := rnI_near _ _ hD2
    have p10 : 2 ^ (ex - 82) ≤ 2 ^ (ex - 34) := pow_le _ _ (by omega)
    obtain ⟨r4, e4, w4⟩ := R_sub w3 w2 (Nat.lt_of_lt_of_le hD2 (pow_le ((ex - 82) + 53) 2096 (by omega)))
    have ed : d = r4 := s5.is e4
    subst ed
    have t1 := R_at false 994 4476578029606273024 ((ex - 82) + 53) (by omega) (by omega) (by decide) (by omega)
    have t2 := R_at true 994 13699950066461048832 ((ex - 82) + 53) (by omega) (by omega) (by decide) (by omega)
    rw [p9] at t1 t2
    have fin : (rnI (Xv - Rv)).natAbs ≤ 32 * 2 ^ (ex - 34) := by
      clear t1 t2 p9 hD2
      generalize 2 ^ (ex - 34) = E at *
      generalize 2 ^ (ex - 82) = E' at *
      generalize rnI (Xv - Rv) = D at *
      omega
    exact ⟨eq_le w4 t1 (sg_le fin), eq_ge w4 t2 (sg_ge fin)⟩
end Go.Proofs.Qxb6605538a.WF
